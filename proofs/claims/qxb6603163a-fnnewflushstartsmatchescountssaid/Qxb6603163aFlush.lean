/- NewFlushStarts: the small functions: flushItem, the store's len and run, flushStartAt. -/
import Derived.Test.Qxb6603163aCnt
import Derived.Test.Qxb6603163aZz
import Derived.Test.Qxb6603163aOpen
import Derived.BigQuiet
import Derived.Deep.QuietTactic
import Derived.Laws.BitsAllLaws
import Derived.Laws.Bits128
import Derived.Deep.WholeRow
namespace Go.Proofs.Qxb6603163a
open Go.ChangeShapes Go.WideShapes Go.ChangeAt Go.RowKit
set_option linter.unusedVariables false

theorem i64_and4095 (n : Int) : bits .and .i64 n 4095 = n % 4096 := by
  have h127 : (BitVec.ofInt 64 4095).toNat = 2 ^ 12 - 1 := by decide
  have key : (BitVec.ofInt 64 n &&& BitVec.ofInt 64 4095).toNat = (n % ((2 ^ 64 : Nat) : Int)).toNat % 2 ^ 12 := by
    rw [BitVec.toNat_and, BitVec.toNat_ofInt, h127, Nat.and_two_pow_sub_one_eq_mod]
  show IntKind.i64.wrap ((BitVec.ofInt 64 n &&& BitVec.ofInt 64 4095).toNat : Nat) = n % 4096
  rw [key, IntKind.wrap_i64]
  omega
theorem u32_and4095 (N : Nat) (h : N < 4294967296) : bits BinOp.and IntKind.u32 (N : Int) 4095 = ((N % 4096 : Nat) : Int) := by
  have := u32_and_nat N 4095 h (by omega)
  rw [show ((4095 : Nat) : Int) = 4095 from rfl] at this
  rw [this]
  congr 1
  exact Nat.and_two_pow_sub_one_eq_mod N 12

/-- One byte of the store, for the walk. -/
theorem Mt.item {w : World} {a : Option Addr} {n c : Nat} {ds : List (List Int)} (h : Mt w (.slice a n c) ds) (hf : Full ds) (i : Nat) (hi : i < ds.flatten.length) :
    ∃ b off b2 off2 l cp, a = some ⟨b, off, none⟩ ∧ w.cell? ⟨b, off + i / 4096, none⟩ = some (.slice (some ⟨b2, off2, none⟩) l cp) ∧ i / 4096 < ds.length ∧ i % 4096 < l ∧
      w.cell? ⟨b2, off2 + i % 4096, none⟩ = some (.int .u8 (ds.flatten.getD i 0)) := by
  obtain ⟨d, h1, h2, h3⟩ := full_at ds hf i hi
  obtain ⟨hk, rfl⟩ := List.getElem?_eq_some_iff.1 h1
  obtain ⟨b, off, ao, l, cp, e1, e2, e3, e4, _⟩ := h.row (i / 4096) hk
  obtain ⟨b2, off2, rfl, e5⟩ := e4.cells (by omega)
  refine ⟨b, off, b2, off2, l, cp, e1, e2, hk, by omega, ?_⟩
  rw [e5 _ h2, List.getD_eq_getElem?_getD, h3, ← List.getD_eq_getElem?_getD]

def ItemPost (x : Int) (w : World) (e : Ending) (w' : World) : Prop := e = .returned (.int .u8 x) ∧ w' = w
set_option maxHeartbeats 400000 in
theorem item_any (v : Value) (ds : List (List Int)) (w : World) (h : Mt w v ds) (hf : Full ds) (i : Nat) (hi : i < ds.flatten.length) (hI : i < 1048576) :
    Calls Try.prog 17 #[v, .int .i64 i] w fun e w' => ItemPost (ds.flatten.getD i 0) w e w' := by
  obtain ⟨a, c, rfl⟩ := h.form
  obtain ⟨b, off, b2, off2, l, cp, rfl, h1, h2, h3, h4⟩ := h.item hf i hi
  obtain ⟨q, hq⟩ : ∃ q, i / 4096 = q := ⟨_, rfl⟩
  obtain ⟨r, hr⟩ : ∃ r, i % 4096 = r := ⟨_, rfl⟩
  obtain ⟨n, hn⟩ : ∃ n, ds.length = n := ⟨_, rfl⟩
  obtain ⟨x, hx⟩ : ∃ x, ds.flatten.getD i 0 = x := ⟨_, rfl⟩
  rw [hq] at h1 h2
  rw [hr] at h3 h4
  rw [hn] at h2 ⊢
  rw [hx] at h4 ⊢
  have hand : bits .and .i64 (i : Int) 4095 = (r : Int) := by rw [i64_and4095]; omega
  have hshr : (i : Int) / 4096 = (q : Int) := by omega
  clear hq hr hn hx h hf hi
  go_enter Try.func17, Try.ntmps17
  go_wp2
  go_ret
  exact ⟨rfl, rfl⟩

/-! ### the store's len -/
def LenPost (n : Nat) (w : World) (e : Ending) (w' : World) : Prop := e = .returned (.int .u32 n) ∧ w' = w
set_option maxHeartbeats 400000 in
theorem len_any (S : Nat) (v : Value) (ds : List (List Int)) (w : World) (hS : w.cell? ⟨S, 0, none⟩ = some v) (h : Mt w v ds) (hf : Full ds) (hI : ds.flatten.length ≤ 1048576) :
    Calls Try.prog 23 #[.pointer (some ⟨S, 0, none⟩)] w fun e w' => LenPost ds.flatten.length w e w' := by
  obtain ⟨a, c, rfl⟩ := h.form
  by_cases h0 : ds.length = 0
  · have hz : ds = [] := List.eq_nil_of_length_eq_zero h0
    subst hz
    clear h hf hI h0
    go_enter Try.func23, Try.ntmps23
    go_wp2
    go_ret
    exact ⟨rfl, rfl⟩
  · have hk : ds.length - 1 < ds.length := by omega
    obtain ⟨b, off, ao, l, cp, rfl, h2, h3, hx1, hx2⟩ := h.row (ds.length - 1) hk
    clear hx1 hx2
    have h4 := full_len ds hf (ds.length - 1) _ (List.getElem?_eq_getElem hk) (by omega)
    rw [← h3] at h4
    obtain ⟨m, hm⟩ : ∃ m, ds.flatten.length = m := ⟨_, rfl⟩
    obtain ⟨n, hn⟩ : ∃ n, ds.length - 1 = n := ⟨_, rfl⟩
    obtain ⟨N, hN⟩ : ∃ N, ds.length = N := ⟨_, rfl⟩
    rw [hm] at h4 hI ⊢
    rw [hn] at h4 h2
    rw [hN] at hS
    have e1 : (N : Int) - 1 = (n : Int) := by omega
    obtain ⟨p, hp⟩ : ∃ p, n * 4096 = p := ⟨_, rfl⟩
    have e2 : (n : Int) * 4096 = (p : Int) := by omega
    have e3 : (p : Int) + (l : Int) = (m : Int) := by omega
    have e0 : ((N : Int) == 0) = false := by rw [beq_eq_false_iff_ne]; omega
    have w1 : (p : Int) % 4294967296 = p := by omega
    have w2 : (m : Int) % 4294967296 = m := by omega
    have w3 : (n : Int) % 4294967296 = n := by omega
    have w4 : (l : Int) % 4294967296 = l := by omega
    have hnN : n < N := by omega
    clear h3 h hf h0 hk hm hn hN hp h4
    go_enter Try.func23, Try.ntmps23
    go_wp2
    go_ret
    exact ⟨rfl, rfl⟩

/-! ### the store's run -/
theorem Rd.cut {w : World} {b off l cp a m : Nat} {d : List Int} (h : Rd w (.slice (some ⟨b, off, none⟩) l cp) d) (hl : a + m ≤ d.length) (hm : 0 < m) :
    Rd w (.slice (some ⟨b, off + a, none⟩) m (cp - a)) ((d.drop a).take m) := by
  obtain ⟨h0, a', c', e, h1, h2, h3⟩ := h
  simp only [Value.slice.injEq] at e
  obtain ⟨rfl, rfl, rfl⟩ := e
  have hlen : ((d.drop a).take m).length = m := by simp; omega
  refine ⟨fun z hz => h0 z (List.mem_of_mem_drop (List.mem_of_mem_take hz)), _, cp - a, by rw [hlen], by omega, (fun hh => by cases hh), fun ad had j u hu => ?_⟩
  cases had
  rw [bcs_get, List.getElem?_take] at hu
  split at hu
  · rename_i hj
    rw [List.getElem?_drop] at hu
    have := h3 _ rfl (a + j) u (by rw [bcs_get]; exact hu)
    rw [add_lit] at this ⊢
    rw [← this]
    congr 2
    omega
  · simp at hu

def RunPost (xs : List Int) (w0 w : World) (e : Ending) (w' : World) : Prop := (∃ v, e = .returned v ∧ Rd w0 v xs) ∧ w' = w
set_option maxHeartbeats 400000 in
theorem run_any (S : Nat) (v : Value) (ds : List (List Int)) (w0 w : World) (hbel : Below w0.heap.size w0 w) (hS : w.cell? ⟨S, 0, none⟩ = some v) (h : Mt w0 v ds) (hf : Full ds) (hI : ds.flatten.length ≤ 1048576) (x y : Nat) (hxy : x ≤ y) (hy : y ≤ ds.flatten.length)
    (hq : x = y ∨ x / 4096 = (y - 1) / 4096) :
    Calls Try.prog 24 #[.pointer (some ⟨S, 0, none⟩), .int .u32 x, .int .u32 y] w fun e w' => RunPost ((ds.flatten.drop x).take (y - x)) w0 w e w' := by
  obtain ⟨a, c, rfl⟩ := h.form
  by_cases hne : x = y
  · subst hne
    clear h hf hI
    go_enter Try.func24, Try.ntmps24
    go_wp2
    go_ret
    exact ⟨⟨.slice none 0 0, rfl, by first | exact Rd.nil _ | (rw [Nat.sub_self, List.take_zero]; exact Rd.nil _)⟩, rfl⟩
  · obtain ⟨d, h1, h2, h3⟩ := full_run ds hf x y (by omega) hy (by omega)
    obtain ⟨hk, rfl⟩ := List.getElem?_eq_some_iff.1 h1
    obtain ⟨b, off, ao, l, cp, rfl, e2, e3, e4, hblt⟩ := h.row (x / 4096) hk
    obtain ⟨b2, off2, rfl, _⟩ := e4.cells (by omega)
    rw [← World.cell?_of_block (hbel.block b hblt)] at e2
    have hrd := e4.cut h2 (by omega)
    have hcl : l ≤ cp := by
      obtain ⟨_, a', c', e, h1', _⟩ := e4
      simp only [Value.slice.injEq] at e
      omega
    rw [h3] at hrd
    rw [← e3] at h2
    obtain ⟨q, hqq⟩ : ∃ q, x / 4096 = q := ⟨_, rfl⟩
    obtain ⟨r, hr⟩ : ∃ r, x % 4096 = r := ⟨_, rfl⟩
    obtain ⟨n, hn⟩ : ∃ n, ds.length = n := ⟨_, rfl⟩
    obtain ⟨m, hm⟩ : ∃ m, y - x = m := ⟨_, rfl⟩
    rw [hqq, hn] at hk
    rw [hqq] at e2
    rw [hr, hm] at hrd h2
    rw [hn] at hS
    rw [hm]
    have hand : bits .and .u32 (x : Int) 4095 = (r : Int) := by rw [u32_and4095 x (by omega), hr]
    have hshr : (x : Int) / 4096 = (q : Int) := by omega
    have hxe : ((x : Int) == (y : Int)) = false := by rw [beq_eq_false_iff_ne]; omega
    obtain ⟨t, ht⟩ : ∃ t, r + y = t := ⟨_, rfl⟩
    obtain ⟨z, hz⟩ : ∃ z, r + m = z := ⟨_, rfl⟩
    have hsum : (r : Int) + (y : Int) = (t : Int) := by omega
    have hsub : (t : Int) - (x : Int) = (z : Int) := by omega
    have hzr : z - r = m := by omega
    have hz1 : z ≤ l := by omega
    have hz2 : r ≤ z := by omega
    have hcr : ¬ cp = r := by omega
    have hcr2 : ¬ r = cp := by omega
    have hcr3 : ¬ cp - r = 0 := by omega
    have hw1 : (t : Int) % 4294967296 = t := by omega
    have hw2 : (z : Int) % 4294967296 = z := by omega
    have hw3 : z % 4294967296 = z := by omega
    clear hm ht hz
    have HRD := hide hrd
    clear hrd h3 e4 e3 h1 h hf hqq hr hn hne hq
    go_enter Try.func24, Try.ntmps24
    go_wp2
    go_ret
    exact ⟨⟨_, rfl, unhide HRD⟩, rfl⟩

/-! ### flushStartAt -/
def StartPost (x : Nat) (w : World) (e : Ending) (w' : World) : Prop := e = .returned (.int .u32 x) ∧ ∃ n, w' = w.drewN n
set_option maxHeartbeats 400000 in
theorem start_any (F V N M pf f b g j : Nat) (x y z : Nat) (w : World) (hg : f * pf + b / 8 = g) (hj : 8 * g + b % 8 = j) (hN : N ≤ 100000000) (hM : M ≤ 100000000) (hgN : g < N) (hjM : j < M) (hf : f ≤ 256) (hpf : pf ≤ 100000000)
    (hx : w.cell? ⟨F, g, none⟩ = some (.int .u32 x)) (hy : w.cell? ⟨V, j, none⟩ = some (.int .u16 y)) (hz : x + y = z) (hz1 : z ≤ 100000000) :
    Calls Try.prog 19 #[.slice (some ⟨F, 0, none⟩) N N, .slice (some ⟨V, 0, none⟩) M M, .int .i64 pf, .int .i64 f, .int .i64 b] w fun e w' => StartPost z w e w' := by
  obtain ⟨m, hm⟩ : ∃ m, f * pf = m := ⟨_, rfl⟩
  obtain ⟨d, hd⟩ : ∃ d, b / 8 = d := ⟨_, rfl⟩
  obtain ⟨r, hr⟩ : ∃ r, b % 8 = r := ⟨_, rfl⟩
  have a1 : (f : Int) * (pf : Int) = (m : Int) := by rw [← hm]; simp
  have a2 : (b : Int) / 8 = (d : Int) := by omega
  have a3 : (m : Int) + (d : Int) = (g : Int) := by omega
  have a4 : (b : Int) % 8 = (r : Int) := by omega
  obtain ⟨k, hk⟩ : ∃ k, 8 * g = k := ⟨_, rfl⟩
  have a5 : (8 : Int) * (g : Int) = (k : Int) := by omega
  have a6 : (k : Int) + (r : Int) = (j : Int) := by omega
  have a7 : (x : Int) + (y : Int) = (z : Int) := by omega
  have w1 : (z : Int) % 4294967296 = z := by omega
  have w2 : (y : Int) % 4294967296 = y := by omega
  have hm1 : m ≤ g := by omega
  have hd1 : d ≤ g := by omega
  have hk1 : k ≤ j := by omega
  have hr1 : r ≤ j := by omega
  have g0 : (0 : Int) ≤ (g : Int) := by omega
  have g1 : (g : Int) < (N : Int) := by omega
  have j0 : (0 : Int) ≤ (j : Int) := by omega
  have j1 : (j : Int) < (M : Int) := by omega
  clear hm hd hr hk hg hj hz hf hpf
  go_enter Try.func19, Try.ntmps19
  go_wp2_with fail
  go_quiet (fail)
  go_wp2
  go_ret
  exact ⟨rfl, _, rfl⟩
end Go.Proofs.Qxb6603163a
