/- NewFlushStarts: ZZNewFlushStarts (func 16), walked. -/
import Derived.Test.Qxb6603163aNew
namespace Go.Proofs.Qxb6603163a
open Go.ChangeShapes Go.WideShapes Go.ChangeAt Go.RowKit
set_option linter.unusedVariables false

/-- The q-th group's first, and its k-th within, as they are handed out. -/
def fin1 (L : List Int) (s pf lo q : Nat) : Nat := fst0 L s (q / pf) (q % pf) lo + bas L (q / pf)
def fin2 (L : List Int) (s pf lo q k : Nat) : Nat := if 8 * (q % pf) + k < lo then C L s (q / pf) (8 * (q % pf) + k) - C L s (q / pf) (8 * (q % pf)) else 0
theorem grpB_fin1 (L : List Int) (s pf lo n q : Nat) (hq : q < n * pf) : grpB L s pf lo n 0 (q * 9) = .int .u32 (fin1 L s pf lo q) := by
  have h1 : q * 9 / 9 / pf < n := div_lt_of (by omega)
  have h2 : q * 9 / 9 = q := by omega
  have h3 : q * 9 % 9 = 0 := by omega
  rw [h2] at h1
  unfold grpB gcell fin1 fst0
  rw [h2, h3, if_pos rfl, if_pos (Or.inl h1)]
theorem grpB_fin2 (L : List Int) (s pf lo n q k : Nat) (hq : q < n * pf) (hk : k < 8) : grpB L s pf lo n 0 (q * 9 + 1 + k) = .int .u16 (fin2 L s pf lo q k) := by
  have h2 : (q * 9 + 1 + k) / 9 = q := by omega
  have h3 : (q * 9 + 1 + k) % 9 = 1 + k := by omega
  unfold grpB gcell fin2
  rw [h2, h3, if_neg (by omega), show 1 + k - 1 = k by omega]

def InvZ (w wr : World) (T G N pf : Nat) (gb : Nat → Value) (ff vf : Nat → Nat) : Prop :=
  wr.rowIs G 58 (9 * N) gb ∧ wr.rowIs T 51 2 (fun j => if j = 0 then .int .i64 pf else .slice (some ⟨G, 0, none⟩) N N) ∧ wr.rowIs (T + 1) 25 N (fun q => .int .u32 (ff q)) ∧
  wr.rowIs (T + 1 + 1) 43 (8 * N) (fun j => .int .u16 (vf j)) ∧ Below w.heap.size w wr ∧ G < T ∧ w.heap.size ≤ G

theorem InvZ.start {w w1 : World} {G N pf : Nat} {gb : Nat → Value} (h : w1.rowIs G 58 (9 * N) gb) (hb : Below w.heap.size w w1) (hG : w.heap.size ≤ G) :
    InvZ w (((w1.alloc (.cells #[.int .i64 pf, .slice (some ⟨G, 0, none⟩) N N] 51)).alloc (.cells (madeCells #[.int .u32 0] N) 25)).alloc (.cells (madeCells #[.int .u16 0] (8 * N)) 43)) w1.heap.size G N pf gb (fun _ => 0) (fun _ => 0) := by
  have hlt := h.lt
  have r2 : (w1.alloc (.cells #[.int .i64 pf, .slice (some ⟨G, 0, none⟩) N N] 51)).rowIs w1.heap.size 51 2 (fun j => if j = 0 then .int .i64 pf else .slice (some ⟨G, 0, none⟩) N N) :=
    ⟨_, heap_alloc_new _ _, rfl, fun i hi => by
      have : i = 0 ∨ i = 1 := by omega
      rcases this with rfl | rfl <;> rfl⟩
  have e2 : (w1.alloc (.cells #[.int .i64 pf, .slice (some ⟨G, 0, none⟩) N N] 51)).heap.size = w1.heap.size + 1 := by simp
  have b2 : Below w.heap.size w (w1.alloc (.cells #[.int .i64 pf, .slice (some ⟨G, 0, none⟩) N N] 51)) := hb.alloc (by omega) _
  have h2 := h.alloc (.cells #[.int .i64 pf, .slice (some ⟨G, 0, none⟩) N N] 51)
  generalize w1.alloc (.cells #[.int .i64 pf, .slice (some ⟨G, 0, none⟩) N N] 51) = w2 at *
  have r3 := World.rowIs_made w2 (.int .u32 0) N 25
  have e3 : (w2.alloc (.cells (madeCells #[.int .u32 0] N) 25)).heap.size = w1.heap.size + 1 + 1 := by simp [e2]
  have r4 := World.rowIs_made (w2.alloc (.cells (madeCells #[.int .u32 0] N) 25)) (.int .u16 0) (8 * N) 43
  rw [e2] at r3
  rw [e3] at r4
  exact ⟨(h2.alloc _).alloc _, (r2.alloc _).alloc _, (r3.alloc _).congr fun _ _ => rfl, r4.congr fun _ _ => rfl, (b2.alloc (by omega) _).alloc (by omega) _, hlt, hG⟩

theorem InvZ.cells {w wr : World} {T G N pf : Nat} {gb : Nat → Value} {ff vf : Nat → Nat} (h : InvZ w wr T G N pf gb ff vf) :
    wr.cell? ⟨T, 0, none⟩ = some (.int .i64 pf) ∧ wr.cell? ⟨T, 1, none⟩ = some (.slice (some ⟨G, 0, none⟩) N N) := by
  obtain ⟨h1, h2, h3, h4, h5, h6, h7⟩ := h
  exact ⟨by rw [h2.cell (i := 0) (by omega)]; rfl, by rw [h2.cell (i := 1) (by omega)]; rfl⟩
theorem InvZ.first {w wr : World} {T G N pf n lo s q x : Nat} {L : List Int} {ff vf : Nat → Nat} (h : InvZ w wr T G N pf (grpB L s pf lo n 0) ff vf) (hN : n * pf = N) (hq : q < N) (hx : fin1 L s pf lo q = x) :
    wr.cell? ⟨G, q * 9, none⟩ = some (.int .u32 x) ∧ wr.cell? ⟨T + 1, q, none⟩ = some (.int .u32 (ff q)) ∧ wr.frozen? ⟨T + 1, q, none⟩ = false := by
  obtain ⟨h1, h2, h3, h4, h5, h6, h7⟩ := h
  exact ⟨by rw [h1.cell (by omega), grpB_fin1 _ _ _ _ _ _ (by omega), hx], h3.cell hq, h3.frozen _⟩
theorem InvZ.within {w wr : World} {T G N pf n lo s q k j x : Nat} {L : List Int} {ff vf : Nat → Nat} (h : InvZ w wr T G N pf (grpB L s pf lo n 0) ff vf) (hN : n * pf = N) (hq : q < N) (hk : k < 8) (hj : q * 8 + k = j) (hx : fin2 L s pf lo q k = x) :
    wr.cell? ⟨G, q * 9 + 1 + k, none⟩ = some (.int .u16 x) ∧ wr.cell? ⟨T + 1 + 1, j, none⟩ = some (.int .u16 (vf j)) ∧ wr.frozen? ⟨T + 1 + 1, j, none⟩ = false := by
  obtain ⟨h1, h2, h3, h4, h5, h6, h7⟩ := h
  exact ⟨by rw [h1.cell (by omega), grpB_fin2 _ _ _ _ _ _ _ (by omega) hk, hx], h4.cell (by omega), h4.frozen _⟩
/-- Firsts below i are laid, withins below j. -/
def upto (g : Nat → Nat) (i : Nat) (q : Nat) : Nat := if q < i then g q else 0
theorem upto_step (g : Nat → Nat) (i q x : Nat) (h : g i = x) : (if q = i then Value.int .u32 x else Value.int .u32 (upto g i q)) = Value.int .u32 (upto g (i + 1) q) := by
  unfold upto
  by_cases hq : q = i
  · subst hq
    rw [if_pos rfl, if_pos (Nat.lt_succ_self q), h]
  · rw [if_neg hq]
    by_cases h2 : q < i
    · rw [if_pos h2, if_pos (by omega)]
    · rw [if_neg h2, if_neg (by omega)]
theorem upto_step16 (g : Nat → Nat) (i q x : Nat) (h : g i = x) : (if q = i then Value.int .u16 x else Value.int .u16 (upto g i q)) = Value.int .u16 (upto g (i + 1) q) := by
  unfold upto
  by_cases hq : q = i
  · subst hq
    rw [if_pos rfl, if_pos (Nat.lt_succ_self q), h]
  · rw [if_neg hq]
    by_cases h2 : q < i
    · rw [if_pos h2, if_pos (by omega)]
    · rw [if_neg h2, if_neg (by omega)]
theorem InvZ.putFirst {w wr : World} {T G N pf i x : Nat} {gb : Nat → Value} {g vf : Nat → Nat} (h : InvZ w wr T G N pf gb (upto g i) vf) (hx : g i = x) : InvZ w (wr.setCell ⟨T + 1, i, none⟩ (.int .u32 x)) T G N pf gb (upto g (i + 1)) vf := by
  obtain ⟨h1, h2, h3, h4, h5, h6, h7⟩ := h
  have n1 : G ≠ T + 1 := by omega
  have n2 : T ≠ T + 1 := by omega
  have n3 : T + 1 + 1 ≠ T + 1 := by omega
  exact ⟨h1.setOther n1 _, h2.setOther n2 _, (h3.set i _).congr fun q _ => upto_step g i q x hx, h4.setOther n3 _, h5.setCell (by simp; omega) _, h6, h7⟩
theorem InvZ.putWithin {w wr : World} {T G N pf j x : Nat} {gb : Nat → Value} {g ff : Nat → Nat} (h : InvZ w wr T G N pf gb ff (upto g j)) (hx : g j = x) : InvZ w (wr.setCell ⟨T + 1 + 1, j, none⟩ (.int .u16 x)) T G N pf gb ff (upto g (j + 1)) := by
  obtain ⟨h1, h2, h3, h4, h5, h6, h7⟩ := h
  have n1 : G ≠ T + 1 + 1 := by omega
  have n2 : T ≠ T + 1 + 1 := by omega
  have n3 : T + 1 ≠ T + 1 + 1 := by omega
  exact ⟨h1.setOther n1 _, h2.setOther n2 _, h3.setOther n3 _, (h4.set j _).congr fun q _ => upto_step16 g j q x hx, h5.setCell (by simp; omega) _, h6, h7⟩

def ZnPost (L : List Int) (s pf bounds N : Nat) (w : World) (e : Ending) (w' : World) : Prop :=
  ∃ F V, e = .returned (.tuple #[.int .i64 pf, .slice (some ⟨F, 0, none⟩) N N, .slice (some ⟨V, 0, none⟩) (8 * N) (8 * N)]) ∧ w.heap.size ≤ F ∧ w.heap.size ≤ V ∧ w'.rowIs F 25 N (fun q => .int .u32 (fin1 L s pf bounds q)) ∧
    w'.rowIs V 43 (8 * N) (fun j => .int .u16 (fin2 L s pf bounds (j / 8) (j % 8))) ∧ Below w.heap.size w w'
theorem InvZ.post {w wr : World} {T G N pf s lo : Nat} {L : List Int} {gb : Nat → Value} {M : Nat} (hM : 8 * N = M) (h : InvZ w wr T G N pf gb (upto (fin1 L s pf lo) N) (upto (fun j => fin2 L s pf lo (j / 8) (j % 8)) (N * 8))) :
    ZnPost L s pf lo N w (.returned (.tuple #[.int .i64 pf, .slice (some ⟨T + 1, 0, none⟩) N N, .slice (some ⟨T + 1 + 1, 0, none⟩) M M])) wr := by
  obtain ⟨h1, h2, h3, h4, h5, h6, h7⟩ := h
  subst hM
  refine ⟨_, _, rfl, by omega, by omega, h3.congr fun q hq => ?_, h4.congr fun q hq => ?_, h5⟩
  · show Value.int .u32 (upto (fin1 L s pf lo) N q : Nat) = _
    rw [upto, if_pos hq]
  · show Value.int .u16 (upto (fun j => fin2 L s pf lo (j / 8) (j % 8)) (N * 8) q : Nat) = _
    rw [upto, if_pos (by omega)]

set_option maxRecDepth 100000 in
set_option maxHeartbeats 2000000 in
theorem znew_any (v : Value) (ds : List (List Int)) (n s bounds pf N : Nat) (w : World) (h : Mt w v ds) (hf : Full ds) (hI : ds.flatten.length ≤ 1048576)
    (hn : n ≤ 256) (hs1 : 1 ≤ s) (hs : s ≤ 4096) (hdv : 4096 % s = 0) (hb : (ds.flatten.length + s - 1) / s + 1 = bounds) (hpf : (bounds + 7) / 8 = pf) (hN : n * pf = N) (hNN : N ≤ 2097152) :
    Calls Try.prog 16 #[v, .int .i64 n, .int .i64 s] w fun e w' => ZnPost ds.flatten s pf bounds N w e w' := by
  have hsz : (w.alloc (.cells #[v] 55)).heap.size = w.heap.size + 1 := by simp
  have hbel : Below w.heap.size w (w.alloc (.cells #[v] 55)) := (Below.refl _ _).alloc (Nat.le_refl _) _
  have hnew := new_any w.heap.size v ds n s bounds pf N (w.alloc (.cells #[v] 55)) (by rw [cell_of_row _ _ 0 _ 55 (0, 0) (heap_alloc_new _ _)]; rfl) (h.below hbel) hf hI hn hs1 hs hdv hb hpf hN hNN
  obtain ⟨L, hL⟩ : ∃ L, ds.flatten = L := ⟨_, rfl⟩
  rw [hL] at hnew ⊢
  have HNEW := hide hnew
  obtain ⟨M, hM⟩ : ∃ M, 8 * N = M := ⟨_, rfl⟩
  have a1 : (8 : Int) * (N : Int) = (M : Int) := by omega
  have mk1 := run_make_row' (P := Try.prog) 37 25 (.int .u32 0) 4 Try.underlying37 Try.info25 rfl .i64 .i64 N (by omega) (by omega)
  have mk2 := run_make_row' (P := Try.prog) 38 43 (.int .u16 0) 2 Try.underlying38 Try.info43 rfl .i64 .i64 M (by omega) (by omega)
  have hM2 : M ≤ 16777216 := by omega
  obtain ⟨av, cv, rfl⟩ := h.form
  have HB := hide hbel
  have HSZ := hide hsz
  have HM := hide hM
  clear hnew h hf hI hb hL hbel hsz hM
  go_enter Try.func16, Try.ntmps16
  go_wp2_with fail
  refine (unhide HNEW).mono ?_
  rintro e w1 ⟨G, rfl, hG, hrow, hbel1⟩
  have hG1 : w.heap.size ≤ G := by have := unhide HSZ; omega
  have HI0 := hide (InvZ.start (pf := pf) hrow ((unhide HB).trans (hbel1.mono (by have := unhide HSZ; omega))) hG1)
  rw [unhide HM] at HI0
  clear hrow hbel1 HB
  go_wp2_with fail
  go_loopw [12] (fun iv wr => ∃ (i : Nat), i ≤ N ∧ iv = .int .i64 i ∧ Hid (InvZ w wr w1.heap.size G N pf (grpB L s pf bounds n 0) (upto (fin1 L s pf bounds) i) (upto (fun j => fin2 L s pf bounds (j / 8) (j % 8)) (i * 8)))) (fun iv _ => N - (intOf iv).toNat)
  case atStart => exact ⟨0, Nat.zero_le _, rfl, unhide HI0⟩
  case round =>
  obtain ⟨i, hi, rfl, HI⟩ := hrel
  clear HI0 mk1 mk2 HNEW
  obtain ⟨c1, c2⟩ := (unhide HI).cells
  by_cases hlt : i < N
  · obtain ⟨x, hx⟩ : ∃ x, fin1 L s pf bounds i = x := ⟨_, rfl⟩
    obtain ⟨c3, c4, c5⟩ := (unhide HI).first hN hlt hx
    have HX := hide hx
    clear hx
    go_wp2_with fail
    have HJ := hide ((unhide HI).putFirst (unhide HX))
    obtain ⟨wt, hwt⟩ : ∃ wt, wr.setCell ⟨w1.heap.size + 1, i, none⟩ (.int .u32 x) = wt := ⟨_, rfl⟩
    rw [hwt] at HJ ⊢
    clear hwt c1 c2 c3 c4 c5 HI
    obtain ⟨wu, rfl⟩ : ∃ wu, wu = wr := ⟨_, rfl⟩
    go_loopw [13] (fun kv wr => ∃ (k : Nat), k ≤ 8 ∧ kv = .int .i64 k ∧ Hid (InvZ w wr w1.heap.size G N pf (grpB L s pf bounds n 0) (upto (fin1 L s pf bounds) (i + 1)) (upto (fun j => fin2 L s pf bounds (j / 8) (j % 8)) (i * 8 + k)))) (fun kv _ => 8 - (intOf kv).toNat)
    case atStart => exact ⟨0, Nat.zero_le _, rfl, unhide HJ⟩
    case round =>
    obtain ⟨k, hk, rfl, HK⟩ := hrel
    obtain ⟨c1, c2⟩ := (unhide HK).cells
    by_cases hkl : k < 8
    · obtain ⟨m, hm⟩ : ∃ m, i * 8 = m := ⟨_, rfl⟩
      obtain ⟨j, hj⟩ : ∃ j, m + k = j := ⟨_, rfl⟩
      obtain ⟨y, hy⟩ : ∃ y, fin2 L s pf bounds i k = y := ⟨_, rfl⟩
      have m1 : (i : Int) * 8 = (m : Int) := by omega
      have m2 : (m : Int) + (k : Int) = (j : Int) := by omega
      have hjM : j < M := by have := unhide HM; omega
      obtain ⟨c3, c4, c5⟩ := (unhide HK).within (j := j) hN hlt hkl (by omega) hy
      have hy2 : (fun j => fin2 L s pf bounds (j / 8) (j % 8)) (i * 8 + k) = y := by
        show fin2 L s pf bounds ((i * 8 + k) / 8) ((i * 8 + k) % 8) = y
        rw [show (i * 8 + k) / 8 = i by omega, show (i * 8 + k) % 8 = k by omega, hy]
      have HR := hide ((unhide HK).putWithin hy2)
      rw [show i * 8 + k = j by omega] at HR
      have HY := hide (And.intro hm hj)
      clear hm hj hy hy2
      go_wp2_with fail
      go_roundw
      case rel => exact ⟨k + 1, by omega, by go_num, by rw [show i * 8 + (k + 1) = j + 1 by have := unhide HY; omega]; exact unhide HR⟩
      case measure => simp [intOf]; omega
    · have hke : k = 8 := by omega
      subst hke
      go_wp2_with fail
      go_roundw
      case rel => exact ⟨i + 1, by omega, by go_num, by rw [Nat.add_mul, Nat.one_mul]; exact unhide HK⟩
      case measure => simp [intOf]; omega
  · have hie : i = N := by omega
    subst hie
    go_wp2_with fail
    exact bodyPost_ret (v := .tuple #[.int .i64 pf, .slice (some ⟨w1.heap.size + 1, 0, none⟩) i i, .slice (some ⟨w1.heap.size + 1 + 1, 0, none⟩) M M]) (by simp [results, Try.results16, go_sem]) rfl ((unhide HI).post (unhide HM))
end Go.Proofs.Qxb6603163a
