/- FnNewFlushStartsMatchesCounts: the walk. -/
import Derived.Test.Qxb6603163aTot
import Derived.Deep.DeepCutAuto
import Derived.Deep.CutBlock
namespace Go.Proofs.Qxb6603163a
open Go.ChangeShapes Go.WideShapes Go.ChangeAt Go.RowKit
set_option linter.unusedVariables false
theorem item_at {wr : World} {v : Value} {ds : List (List Int)} {L : List Int} {ids : Nat} (hm : Mt wr v ds) (hf : Full ds) (hL : ds.flatten = L) (hl : L.length = ids) (hI : ids ≤ 1048576) (i : Nat) (hi : i < ids) :
    ∃ xn : Nat, xn < 256 ∧ L[i]? = some (xn : Int) ∧ Calls Try.prog 17 #[v, .int .i64 i] wr fun e w' => e = .returned (.int .u8 xn) ∧ w' = wr := by
  subst hL
  have hil : i < ds.flatten.length := by omega
  have hmem : ds.flatten[i] ∈ ds.flatten := List.getElem_mem _
  obtain ⟨d, hd1, hd2⟩ := List.mem_flatten.1 hmem
  obtain ⟨k, hk, rfl⟩ := List.getElem_of_mem hd1
  obtain ⟨a, c, rfl⟩ := hm.form
  obtain ⟨b, off, ao, l, cp, e1, e2, e3, e4, _⟩ := hm.row k hk
  have hby := e4.1 _ hd2
  obtain ⟨xn, hxn⟩ : ∃ xn : Nat, ds.flatten[i] = (xn : Int) := ⟨ds.flatten[i].toNat, by omega⟩
  refine ⟨xn, by omega, by rw [List.getElem?_eq_getElem hil, hxn], ?_⟩
  have := item_any _ ds wr hm hf i hil (by omega)
  rw [List.getD_eq_getElem?_getD, List.getElem?_eq_getElem hil, hxn] at this
  exact this

theorem row_bump {wr : World} {T k xn x : Nat} {L : List Int} (h3 : wr.rowIs T 41 256 (fun f => .int .u32 (cnt L f k))) (hL : L[k]? = some (xn : Int)) (hx : cnt L xn k = x) :
    (wr.setCell ⟨T, xn, none⟩ (.int .u32 ((x : Int) + 1))).rowIs T 41 256 (fun f => .int .u32 (cnt L f (k + 1))) := by
  refine (h3.set xn _).congr fun j hj => ?_
  show (if j = xn then Value.int .u32 ((x : Int) + 1) else Value.int .u32 (cnt L j k : Int)) = Value.int .u32 (cnt L j (k + 1) : Int)
  have hs := cnt_succ L j k _ hL
  by_cases hjx : j = xn
  · subst hjx
    rw [if_pos rfl] at hs ⊢
    rw [hs, hx]
    rfl
  · rw [if_neg (by omega)] at hs
    rw [if_neg hjx, hs]
    rfl

/-- The memory in the first loop: the totals so far. -/
def St1 (wb wr : World) (T : Nat) (L : List Int) (i : Nat) : Prop := wr.rowIs T 41 256 (fun f => .int .u32 (cnt L f i)) ∧ Below wb.heap.size wb wr ∧ wr.heap.size = T + 1 ∧ T = wb.heap.size
theorem St1.start (wb : World) (L : List Int) : St1 wb (wb.alloc (.cells z41 41)) wb.heap.size L 0 :=
  ⟨(rowIs_z41 wb).congr fun i _ => by rw [cnt_zero]; rfl, (Below.refl _ _).alloc (Nat.le_refl _) _, by simp, rfl⟩
theorem St1.cell {wb wr : World} {T : Nat} {L : List Int} {i xn x : Nat} (h : St1 wb wr T L i) (hxn : xn < 256) (hx : cnt L xn i = x) : wr.cell? ⟨T, xn, none⟩ = some (.int .u32 x) ∧ wr.frozen? ⟨T, xn, none⟩ = false :=
  ⟨by rw [h.1.cell hxn, hx], h.1.frozen _⟩
theorem St1.step {wb wr : World} {T : Nat} {L : List Int} {k xn x : Nat} (h : St1 wb wr T L k) (hL : L[k]? = some (xn : Int)) (hx : cnt L xn k = x) : St1 wb (wr.setCell ⟨T, xn, none⟩ (.int .u32 ((x : Int) + 1))) T L (k + 1) :=
  ⟨row_bump h.1 hL hx, h.2.1.setCell (by show wb.heap.size ≤ T; have := h.2.2.2; omega) _, by simpa using h.2.2.1, h.2.2.2⟩

/-- The memory in the second loop: the totals, the bases so far. -/
def St2 (wb wr : World) (T B : Nat) (L : List Int) (v : Nat) : Prop :=
  wr.rowIs T 41 256 (fun f => .int .u32 (L.count (f : Int))) ∧ wr.rowIs B 41 256 (fun f => .int .u32 (upto (bas L) v f)) ∧ Below wb.heap.size wb wr ∧ wr.heap.size = B + 1 ∧ B = T + 1 ∧ T = wb.heap.size
theorem St2.start {wb wr : World} {T B : Nat} {L : List Int} {i : Nat} (h : St1 wb wr T L i) (hi : L.length ≤ i) (hB : wr.heap.size = B) : St2 wb (wr.alloc (.cells z41 41)) T B L 0 := by
  obtain ⟨h1, h2, h3, h4⟩ := h
  subst hB
  refine ⟨(h1.alloc _).congr fun f _ => by rw [cnt_all L f i hi], (rowIs_z41 wr).congr fun f _ => rfl, h2.alloc (by omega) _, by simp, h3, h4⟩
theorem St2.cells {wb wr : World} {T B : Nat} {L : List Int} {v x : Nat} (h : St2 wb wr T B L v) (hv : v < 256) (hx : L.count (v : Int) = x) (u : Value) :
    wr.cell? ⟨T, v, none⟩ = some (.int .u32 x) ∧ (wr.setCell ⟨B, v, none⟩ u).cell? ⟨T, v, none⟩ = some (.int .u32 x) ∧ (∃ o, wr.cell? ⟨B, v, none⟩ = some o) ∧ wr.frozen? ⟨B, v, none⟩ = false ∧ T ≠ B := by
  obtain ⟨h1, h2, h3, h4, h5, h6⟩ := h
  have hne : T ≠ B := by omega
  exact ⟨by rw [h1.cell hv, hx], by rw [(h1.setOther (a := ⟨B, v, none⟩) hne u).cell hv, hx], ⟨_, h2.cell hv⟩, h2.frozen _, hne⟩
theorem St2.step {wb wr : World} {T B : Nat} {L : List Int} {v acc : Nat} (h : St2 wb wr T B L v) (ha : bas L v = acc) : St2 wb (wr.setCell ⟨B, v, none⟩ (.int .u32 acc)) T B L (v + 1) := by
  obtain ⟨h1, h2, h3, h4, h5, h6⟩ := h
  have hne : T ≠ B := by omega
  exact ⟨h1.setOther hne _, (h2.set v _).congr fun j _ => upto_step (bas L) v j acc ha, h3.setCell (by show wb.heap.size ≤ B; omega) _, by simpa using h4, h5, h6⟩

/-- The memory in the last loops: the bases, what is seen so far. -/
def St3 (wb wr : World) (B S : Nat) (L : List Int) (p : Nat) : Prop :=
  wr.rowIs B 41 256 (fun f => .int .u32 (bas L f)) ∧ wr.rowIs S 41 256 (fun f => .int .u32 (cnt L f p)) ∧ Below wb.heap.size wb wr ∧ B < S ∧ wb.heap.size ≤ B
theorem St3.start {wb wr : World} {T B S : Nat} {L : List Int} {v : Nat} (h : St2 wb wr T B L v) (hv : 256 ≤ v) (hS : wr.heap.size = S) : St3 wb (wr.alloc (.cells z41 41)) B S L 0 := by
  obtain ⟨h1, h2, h3, h4, h5, h6⟩ := h
  subst hS
  refine ⟨(h2.alloc _).congr fun f hf => by rw [upto, if_pos (by omega)], (rowIs_z41 wr).congr fun f _ => by rw [cnt_zero]; rfl, h3.alloc (by omega) _, by omega, by omega⟩
theorem St3.cell {wb wr : World} {B S : Nat} {L : List Int} {p xn x : Nat} (h : St3 wb wr B S L p) (hxn : xn < 256) (hx : cnt L xn p = x) : wr.cell? ⟨S, xn, none⟩ = some (.int .u32 x) ∧ wr.frozen? ⟨S, xn, none⟩ = false :=
  ⟨by rw [h.2.1.cell hxn, hx], h.2.1.frozen _⟩
theorem St3.base {wb wr : World} {B S : Nat} {L : List Int} {p f x : Nat} (h : St3 wb wr B S L p) (hf : f < 256) (hx : bas L f = x) : wr.cell? ⟨B, f, none⟩ = some (.int .u32 x) := by rw [h.1.cell hf, hx]
theorem St3.step {wb wr : World} {B S : Nat} {L : List Int} {k xn x : Nat} (h : St3 wb wr B S L k) (hL : L[k]? = some (xn : Int)) (hx : cnt L xn k = x) : St3 wb (wr.setCell ⟨S, xn, none⟩ (.int .u32 ((x : Int) + 1))) B S L (k + 1) := by
  obtain ⟨h1, h2, h3, h4, h5⟩ := h
  exact ⟨h1.setOther (by show B ≠ S; omega) _, row_bump h2 hL hx, h3.setCell (by show wb.heap.size ≤ S; omega) _, h4, h5⟩
theorem St3.drewN {wb wr : World} {B S : Nat} {L : List Int} {p : Nat} (h : St3 wb wr B S L p) (m : Nat) : St3 wb (wr.drewN m) B S L p := by
  obtain ⟨h1, h2, h3, h4, h5⟩ := h
  exact ⟨h1, h2, below_drewN h3 m, h4, h5⟩
/-- The groups' rows, read later on. -/
theorem late_cells {wb wr : World} {F V N M n pf bounds s : Nat} {L : List Int} (hb : Below wb.heap.size wb wr) (rF : wb.rowIs F 25 N (fun q => .int .u32 (fin1 L s pf bounds q))) (rV : wb.rowIs V 43 M (fun j => .int .u16 (fin2 L s pf bounds (j / 8) (j % 8))))
    (hN : n * pf = N) (hM : 8 * N = M) (f b d r m g k j x y : Nat) (hf : f < n) (hd : b / 8 = d) (hr : b % 8 = r) (hdp : d < pf) (hm : f * pf = m) (hg : m + d = g) (hk : 8 * g = k) (hj : k + r = j)
    (hx : fin1 L s pf bounds g = x) (hy : fin2 L s pf bounds g r = y) :
    g < N ∧ j < M ∧ wr.cell? ⟨F, g, none⟩ = some (.int .u32 x) ∧ wr.cell? ⟨V, j, none⟩ = some (.int .u16 y) := by
  have h1 := gidx_lt hdp hf
  have hgN : g < N := by omega
  have hjM : j < M := by omega
  refine ⟨hgN, hjM, ?_, ?_⟩
  · rw [(rF.of_block (hb.block _ rF.lt)).cell hgN, hx]
  · rw [(rV.of_block (hb.block _ rV.lt)).cell hjM, show j / 8 = g by omega, show j % 8 = r by omega, hy]

set_option maxRecDepth 100000 in
set_option maxHeartbeats 8000000 in
theorem counts_walk (v : Value) (ds : List (List Int)) (a1 : Int) (w1 : (Lit.int .i64 a1).wf = true) (a2 : Int) (w2 : (Lit.int .i64 a2).wf = true) (w : World) (hm : Mt w v ds) :
    Calls Try.prog 6 #[v, .int .i64 a1, .int .i64 a2] w fun e w' => LawPost w e w' := by
  have hb1 := bounds_i64 w1
  have hb2 := bounds_i64 w2
  have hz := zzCounts v ds a1 a2 w hm
  have hcl : Sized ds → Calls Try.prog 11 #[v] w fun e w' => ∃ ao cap, e = .returned (.slice ao ds.length cap) ∧ Store w' w.heap.size (.slice ao ds.length cap) ds ∧ Below w.heap.size w w' := fun hs => cloneChunks_any v ds w hm hs.1 hs.2
  obtain ⟨va, vc, hv⟩ := hm.form
  subst hv
  have HM := hide hm
  have HZ := hide hz
  have HCL := hide hcl
  clear hm hz w1 w2 hcl
  obtain ⟨len, hlen⟩ : ∃ len, ds.length = len := ⟨_, rfl⟩
  rw [hlen] at HZ HM HCL
  rw [hlen]
  have HLEN := hide hlen
  clear hlen
  by_cases hn1 : 65536 < (len : Int)
  · go_enter Try.func6, Try.ntmps6
    go_wp2_with (go_at_call 15; refine (unhide HZ).mono ?_; rintro e w ⟨hz, rfl⟩; rcases hz with ⟨rfl, hsized⟩ | rfl)
    all_goals go_ret
    all_goals exact ⟨rfl, Below.refl _ _⟩
  have hg1 : decide (65536 < (len : Int)) = false := by simpa using hn1
  by_cases hx2 : 1048576 < 24 * (len : Int)
  · go_enter Try.func6, Try.ntmps6
    go_wp2_with (go_at_call 15; refine (unhide HZ).mono ?_; rintro e w ⟨hz, rfl⟩; rcases hz with ⟨rfl, hsized⟩ | rfl)
    all_goals go_ret
    all_goals exact ⟨rfl, Below.refl _ _⟩
  go_enter Try.func6, Try.ntmps6
  go_wp2_with (go_at_call 15; refine (unhide HZ).mono ?_; rintro e w ⟨hz, rfl⟩; rcases hz with ⟨rfl, hsized⟩ | rfl)
  rotate_left
  · go_ret
    exact ⟨rfl, Below.refl _ _⟩
  have HS := hide hsized
  clear hsized HZ
  go_loop [7, 8] (fun z i => ∃ (k t : Nat), k ≤ len ∧ i = .int .i64 k ∧ z = .int .i64 t ∧ t ≤ 1048576 ∧ Hid (24 * len + tot ds k = t)) (fun _ i => len - (intOf i).toNat)
  case atStart => exact ⟨0, 24 * len, Nat.zero_le _, rfl, by go_num, by omega, by rw [tot_zero]; rfl⟩
  case round =>
  obtain ⟨k, t, hk, rfl, rfl, ht1, HT⟩ := hrel
  by_cases hlt : k < len
  · obtain ⟨b, off, ao, l, cp, hsome, hcell, hl⟩ := row_len HLEN (unhide HM) hlt
    cases hsome
    have hl2 : l ≤ 1048576 := by
      have := (unhide HS).2 (ds[k]'(by rw [unhide HLEN]; exact hlt)) (List.getElem_mem _)
      rw [tot_len_eq hl] at this
      exact this
    have HL := hide hl
    clear hl
    by_cases hbig : (1048576 : Int) - (t : Int) < (l : Int)
    · go_wp2
      go_ret
      exact ⟨rfl, Below.refl _ _⟩
    · go_wp2
      go_round
      case rel => exact ⟨k + 1, t + l, by omega, by go_num, by go_num, by omega, by have h1 := unhide HT; have h2 := unhide HL; show _ = _; omega⟩
      case measure => simp [intOf]; omega
  have hke : k = len := by omega
  have htot : tot ds len ≤ 1048576 := by rw [← hke]; have := unhide HT; omega
  clear hke HT hk
  by_cases hs1 : a1 < 0
  · go_wp2
    go_ret
    exact ⟨rfl, Below.refl _ _⟩
  have hs1' : decide (a1 < 0) = false := by simpa using hs1
  by_cases hs2 : 256 < a1
  · go_wp2
    go_ret
    exact ⟨rfl, Below.refl _ _⟩
  have hs2' : decide (256 < a1) = false := by simpa using hs2
  obtain ⟨n, rfl⟩ : ∃ n : Nat, a1 = n := ⟨a1.toNat, by omega⟩
  have hn : n ≤ 256 := by omega
  by_cases hs3 : a2 < 1
  · go_wp2
    go_ret
    exact ⟨rfl, Below.refl _ _⟩
  have hs3' : decide (a2 < 1) = false := by simpa using hs3
  by_cases hs4 : 4096 < a2
  · go_wp2
    go_ret
    exact ⟨rfl, Below.refl _ _⟩
  have hs4' : decide (4096 < a2) = false := by simpa using hs4
  obtain ⟨s, rfl⟩ : ∃ s : Nat, a2 = s := ⟨a2.toNat, by omega⟩
  have hsl : 1 ≤ s := by omega
  have hsu : s ≤ 4096 := by omega
  have hs0 : ((s : Int) == 0) = false := by rw [beq_eq_false_iff_ne]; omega
  obtain ⟨r, hr⟩ : ∃ r, 4096 % s = r := ⟨_, rfl⟩
  have hr1 : (4096 : Int) % (s : Int) = (r : Int) := by rw [← hr]; simp
  have HR := hide hr
  clear hr
  by_cases hs5 : r = 0
  rotate_left
  · have hs5' : ((r : Int) != 0) = true := by rw [bne_iff_ne]; omega
    go_wp2
    go_ret
    exact ⟨rfl, Below.refl _ _⟩
  have hs5' : ((r : Int) != 0) = false := by rw [hs5]; rfl
  have hdv : Hid (4096 % s = 0) := by show _ = _; rw [unhide HR, hs5]
  go_wp2_with fail
  go_loop [9, 10] (fun z i => ∃ (k t : Nat), k ≤ len ∧ i = .int .i64 k ∧ z = .int .i64 t ∧ t ≤ 1048576 ∧ Hid (tot ds k = t ∧ FullTo ds k)) (fun _ i => len - (intOf i).toNat)
  case atStart => exact ⟨0, 0, Nat.zero_le _, rfl, rfl, by omega, tot_zero ds, FullTo.zero ds⟩
  case round =>
  obtain ⟨k, ids, hk, rfl, rfl, ht1, HT⟩ := hrel
  by_cases hlt : k < len
  · obtain ⟨b, off, ao, l, cp, hsome, hcell, hl⟩ := row_len HLEN (unhide HM) hlt
    cases hsome
    have hl2 : ids + l ≤ 1048576 := by
      have h1 := (unhide HT).1
      have h2 := tot_mono ds (show k + 1 ≤ len by omega)
      omega
    have HL := hide hl
    clear hl
    by_cases hbig : (4096 : Int) < (l : Int)
    · go_wp2
      go_ret
      exact ⟨rfl, Below.refl _ _⟩
    have hbig' : decide ((4096 : Int) < (l : Int)) = false := by simpa using hbig
    by_cases hlast : (k : Int) < (len : Int) - 1
    · have hlast' : decide ((k : Int) < (len : Int) - 1) = true := by simpa using hlast
      by_cases h4 : l = 4096
      · have h4' : ((l : Int) != 4096) = false := by rw [h4]; rfl
        go_wp2
        go_round
        case rel => exact ⟨k + 1, ids + l, by omega, by go_num, by go_num, by omega, by have h1 := (unhide HT).1; have h2 := unhide HL; omega, (unhide HT).2.next HLEN (unhide HL) (by omega) (by omega)⟩
        case measure => simp [intOf]; omega
      · have h4' : ((l : Int) != 4096) = true := by rw [bne_iff_ne]; omega
        go_wp2
        go_ret
        exact ⟨rfl, Below.refl _ _⟩
    · have hlast' : decide ((k : Int) < (len : Int) - 1) = false := by simpa using hlast
      go_wp2
      go_round
      case rel => exact ⟨k + 1, ids + l, by omega, by go_num, by go_num, by omega, by have h1 := (unhide HT).1; have h2 := unhide HL; omega, (unhide HT).2.next HLEN (unhide HL) (by omega) (by omega)⟩
      case measure => simp [intOf]; omega
  have hke : k = len := by omega
  subst hke
  obtain ⟨L, hL⟩ : ∃ L, ds.flatten = L := ⟨_, rfl⟩
  have HF : Hid (Full ds ∧ ds.flatten = L ∧ L.length = ids) := ⟨(unhide HT).2.full HLEN, hL, by rw [← hL, ← tot_all ds, unhide HLEN]; exact (unhide HT).1⟩
  clear hL HT hlt hk
  obtain ⟨x1, hx1⟩ : ∃ x, ids + s = x := ⟨_, rfl⟩
  obtain ⟨x2, hx2⟩ : ∃ x, ids + s - 1 = x := ⟨_, rfl⟩
  obtain ⟨x3, hx3⟩ : ∃ x, x2 / s = x := ⟨_, rfl⟩
  obtain ⟨bounds, hb⟩ : ∃ x, x3 + 1 = x := ⟨_, rfl⟩
  obtain ⟨nb, hnb⟩ : ∃ x, n * bounds = x := ⟨_, rfl⟩
  obtain ⟨pf, hpf⟩ : ∃ x, (bounds + 7) / 8 = x := ⟨_, rfl⟩
  obtain ⟨N, hN⟩ : ∃ x, n * pf = x := ⟨_, rfl⟩
  have HX : Hid (x3 * s ≤ ids + s - 1 ∧ ids ≤ x3 * s) := by
    have h1 := Nat.div_mul_le_self x2 s
    have h2 := Nat.lt_div_mul_add (a := x2) (b := s) (by omega)
    rw [hx3] at h1 h2
    exact ⟨by omega, by omega⟩
  have e1 : (ids : Int) + (s : Int) = (x1 : Int) := by omega
  have e2 : (x1 : Int) - 1 = (x2 : Int) := by omega
  have e3 : (x2 : Int) / (s : Int) = (x3 : Int) := by rw [← hx3]; simp
  have e4 : (x3 : Int) + 1 = (bounds : Int) := by omega
  have e5 : (n : Int) * (bounds : Int) = (nb : Int) := by rw [← hnb]; simp
  have hx3l : x3 ≤ x2 := by rw [← hx3]; exact Nat.div_le_self _ _
  have hx2l : x2 ≤ 1052672 := by omega
  have hbl : bounds ≤ 1052673 := by omega
  have hnbl : nb ≤ 300000000 := by
    have := Nat.mul_le_mul hn hbl
    omega
  by_cases hs6 : 2097152 < (nb : Int)
  · go_wp2
    go_ret
    exact ⟨rfl, Below.refl _ _⟩
  have hs6' : decide (2097152 < (nb : Int)) = false := by simpa using hs6
  have hpb : pf ≤ bounds := by omega
  have hNN : N ≤ 2097152 := by
    have := Nat.mul_le_mul_left n hpb
    omega
  have e6 : (n : Int) * (pf : Int) = (N : Int) := by rw [← hN]; simp
  have hzn : ∀ v' w', Mt w' v' ds → Calls Try.prog 16 #[v', .int .i64 n, .int .i64 s] w' fun e w'' => ZnPost L s pf bounds N w' e w'' := by
    intro v' w' hm'
    obtain ⟨f1, f2, f3⟩ := unhide HF
    have := znew_any v' ds n s bounds pf N w' hm' f1 (by rw [f2, f3]; exact ht1) hn hsl hsu (unhide hdv) (by rw [f2, f3, hx2, hx3, hb]) hpf hN hNN
    rw [f2] at this
    exact this
  have HZN := hide hzn
  clear hzn hx1 hx3 hnb
  go_wp2_with fail
  refine (unhide HCL (unhide HS)).mono ?_
  rintro e wa ⟨ao, cap, rfl, hst, hbel⟩
  have HST := hide (And.intro hst.mt hbel)
  clear hst hbel HCL HS HM
  go_wp2_with fail
  refine (unhide HZN _ _ (unhide HST).1).mono ?_
  rintro e wb ⟨F, V, rfl, hF, hV, rF, rV, hbel2⟩
  obtain ⟨M, hM⟩ : ∃ M, 8 * N = M := ⟨_, rfl⟩
  have HROW := hide (And.intro rF (And.intro rV (And.intro hbel2 (And.intro hF hV))))
  rw [hM] at HROW ⊢
  have e7 : (8 : Int) * (N : Int) = (M : Int) := by omega
  have hMl : M ≤ 16777216 := by omega
  clear rF rV hbel2 HZN hF hV
  have HBE : Hid (∀ wr, Below wb.heap.size wb wr → Below w.heap.size w wr) := fun wr h => by
    have hbw := (unhide HST).2.trans ((unhide HROW).2.2.1.mono (unhide HST).2.size)
    exact hbw.trans (h.mono hbw.size)
  have HIT : Hid (∀ wr i, Below wb.heap.size wb wr → i < ids → ∃ xn : Nat, xn < 256 ∧ L[i]? = some (xn : Int) ∧ Calls Try.prog 17 #[.slice ao k cap, .int .i64 i] wr fun e w' => e = .returned (.int .u8 xn) ∧ w' = wr) := fun wr i h hi =>
    item_at ((unhide HST).1.below ((unhide HROW).2.2.1.trans (h.mono (unhide HROW).2.2.1.size))) (unhide HF).1 (unhide HF).2.1 (unhide HF).2.2 ht1 i hi
  have HLC : Hid (∀ wr, Below wb.heap.size wb wr → ∀ (f b d r m g k j x y : Nat), f < n → b / 8 = d → b % 8 = r → d < pf → f * pf = m → m + d = g → 8 * g = k → k + r = j → fin1 L s pf bounds g = x → fin2 L s pf bounds g r = y →
      g < N ∧ j < M ∧ wr.cell? ⟨F, g, none⟩ = some (.int .u32 x) ∧ wr.cell? ⟨V, j, none⟩ = some (.int .u16 y)) := fun wr h => late_cells h (unhide HROW).1 (unhide HROW).2.1 hN hM
  have HLL := hide (unhide HF).2.2
  obtain ⟨x8, hx8⟩ : ∃ x, bounds + 7 = x := ⟨_, rfl⟩
  have g1 : (bounds : Int) + 7 = (x8 : Int) := by omega
  have g2 : (x8 : Int) / 8 = (pf : Int) := by omega
  obtain ⟨p8, hp8⟩ : ∃ x, 8 * pf = x := ⟨_, rfl⟩
  have g3 : (8 : Int) * (pf : Int) = (p8 : Int) := by omega
  have hp8l : p8 ≤ 8421500 := by omega
  have HP8 : Hid (8 * pf = p8 ∧ (bounds + 7) / 8 = pf ∧ 0 < bounds ∧ x3 + 1 = bounds) := ⟨hp8, hpf, by omega, hb⟩
  have hz := zero41
  have HS1 := hide (St1.start wb L)
  clear hp8 HROW HST hx8 hpf
  go_wp2_with fail
  go_loopw [16] (fun iv wr => ∃ (i : Nat), i ≤ ids ∧ iv = .int .i64 i ∧ Hid (St1 wb wr wb.heap.size L i)) (fun iv _ => ids - (intOf iv).toNat)
  case atStart => exact ⟨0, Nat.zero_le _, rfl, unhide HS1⟩
  case round =>
  obtain ⟨i, hi, rfl, HI⟩ := hrel
  clear HS1
  by_cases hil : i < ids
  · obtain ⟨xn, hxn, hLx, hca⟩ := unhide HIT wr i (unhide HI).2.1 hil
    obtain ⟨x, hx⟩ : ∃ x, cnt L xn i = x := ⟨_, rfl⟩
    obtain ⟨c1, c2⟩ := (unhide HI).cell hxn hx
    have hxl : x ≤ 1048576 := by
      have := cnt_le L xn i
      omega
    have j1 : ((x : Int) + 1) % 4294967296 = (x : Int) + 1 := by omega
    have HXX := hide (And.intro hLx hx)
    have HCA := hide hca
    clear hLx hx hca
    go_wp2_with fail
    refine (unhide HCA).mono ?_
    rintro e w1 ⟨rfl, rfl⟩
    go_wp2_with fail
    go_roundw
    case rel => exact ⟨i + 1, by omega, by go_num, (unhide HI).step (unhide HXX).1 (unhide HXX).2⟩
    case measure => simp [intOf]; omega
  obtain ⟨B, hB⟩ : ∃ B, wr.heap.size = B := ⟨_, rfl⟩
  have HS2 := hide (St2.start (unhide HI) (by rw [unhide HLL]; omega) hB)
  go_wp2_with fail
  clear HI hB
  go_loopw [18, 19] (fun av vv wr => ∃ (v acc : Nat), v ≤ 256 ∧ vv = .int .i64 v ∧ av = .int .u32 acc ∧ acc ≤ 1048576 ∧ Hid (bas L v = acc ∧ St2 wb wr wb.heap.size B L v)) (fun _ vv _ => 256 - (intOf vv).toNat)
  case atStart => exact ⟨0, 0, Nat.zero_le _, rfl, rfl, by omega, rfl, unhide HS2⟩
  case round =>
  obtain ⟨v, acc, hv, rfl, rfl, hacc, HI⟩ := hrel
  clear HS2
  by_cases hvl : v < 256
  · obtain ⟨x, hx⟩ : ∃ x, L.count (v : Int) = x := ⟨_, rfl⟩
    obtain ⟨a2, ha2⟩ : ∃ a, acc + x = a := ⟨_, rfl⟩
    have hbv : bas L (v + 1) = a2 := by
      show bas L v + L.count (v : Int) = a2
      rw [hx, (unhide HI).1, ha2]
    have ha2l : a2 ≤ 1048576 := by
      have := bas_le L (v + 1)
      rw [hbv, unhide HLL] at this
      omega
    obtain ⟨c1, c2, ⟨o, c3⟩, c4, c5⟩ := (unhide HI).2.cells hvl hx (.int .u32 acc)
    have j1 : (acc : Int) + (x : Int) = (a2 : Int) := by omega
    have j2 : (a2 : Int) % 4294967296 = (a2 : Int) := by omega
    have HA2 := hide hbv
    clear hx ha2 hbv
    go_wp2_with fail
    go_roundw
    case rel => exact ⟨v + 1, a2, by omega, by go_num, rfl, ha2l, unhide HA2, (unhide HI).2.step (unhide HI).1⟩
    case measure => simp [intOf]; omega
  obtain ⟨S, hS⟩ : ∃ S, wr.heap.size = S := ⟨_, rfl⟩
  have HS3 := hide (St3.start (unhide HI).2 (by omega) hS)
  go_wp2_with fail
  clear HI hS hz
  go_loopw [21, 22] (fun pv bv wr => ∃ (b p : Nat), b ≤ bounds ∧ bv = .int .i64 b ∧ pv = .int .i64 p ∧ p ≤ ids ∧ Hid (p ≤ b * s ∧ St3 wb wr B S L p)) (fun _ bv _ => bounds - (intOf bv).toNat)
  case atStart => exact ⟨0, 0, Nat.zero_le _, rfl, rfl, Nat.zero_le _, Nat.zero_le _, unhide HS3⟩
  case round =>
  obtain ⟨b, p, hbb, rfl, rfl, hp, HI⟩ := hrel
  clear HS3
  by_cases hbl2 : b < bounds
  · obtain ⟨p1, hp1⟩ : ∃ p, b * s = p := ⟨_, rfl⟩
    have hp1l : p1 ≤ 1052672 := by
      have h1 : b * s ≤ x3 * s := Nat.mul_le_mul_right s (by have := unhide HP8; omega)
      have := (unhide HX).1
      omega
    obtain ⟨p2, hp2⟩ : ∃ p, min p1 ids = p := ⟨_, rfl⟩
    have k2 : (b : Int) * (s : Int) = (p1 : Int) := by rw [← hp1]; simp
    have HP := hide (And.intro hp1 hp2)
    have hp2l : p2 ≤ ids := by omega
    have hpp : p ≤ p2 := by
      have := (unhide HI).1
      omega
    have HI2 := hide (unhide HI).2
    clear hp1 hp2 HI
    go_upto_if 189 with fail
    go_cut [23] (fun rv w1 => rv = .int .i64 p2 ∧ w1 = wr)
    case first =>
      by_cases hgt : (ids : Int) < (p1 : Int)
      · go_wp2_with fail
        go_meet
        exact ⟨by have := unhide HP; go_num, rfl⟩
      · go_wp2_with fail
        go_meet
        exact ⟨by have := unhide HP; go_num, rfl⟩
    case rest =>
    obtain ⟨rfl, rfl⟩ := hcut
    go_wp2_with fail
    go_loopw [21] (fun pv wr => ∃ (p : Nat), p ≤ p2 ∧ pv = .int .i64 p ∧ Hid (St3 wb wr B S L p)) (fun pv _ => p2 - (intOf pv).toNat)
    case atStart => exact ⟨p, hpp, rfl, unhide HI2⟩
    case round =>
    clear HI2 hpp hp
    obtain ⟨p, hp, rfl, HI⟩ := hrel
    by_cases hpl : p < p2
    · obtain ⟨xn, hxn, hLx, hca⟩ := unhide HIT wr p (unhide HI).2.2.1 (by omega)
      obtain ⟨x, hx⟩ : ∃ x, cnt L xn p = x := ⟨_, rfl⟩
      obtain ⟨c1, c2⟩ := (unhide HI).cell hxn hx
      have hxl : x ≤ 1048576 := by
        have := cnt_le L xn p
        omega
      have j1 : ((x : Int) + 1) % 4294967296 = (x : Int) + 1 := by omega
      have HXX := hide (And.intro hLx hx)
      have HCA := hide hca
      clear hLx hx hca
      go_wp2_with fail
      refine (unhide HCA).mono ?_
      rintro e w1 ⟨rfl, rfl⟩
      go_wp2_with fail
      go_roundw
      case rel => exact ⟨p + 1, by omega, by go_num, (unhide HI).step (unhide HXX).1 (unhide HXX).2⟩
      case measure => simp [intOf]; omega
    have HPE : Hid (p = p2) := by show p = p2; omega
    have HI3 : Hid (St3 wb wr B S L p2) := by
      rw [← unhide HPE]
      exact unhide HI
    go_wp2_with fail
    clear HI
    go_loopw [24] (fun fv wr => ∃ (f : Nat), f ≤ n ∧ fv = .int .i64 f ∧ Hid (St3 wb wr B S L p2)) (fun fv _ => n - (intOf fv).toNat)
    case atStart => exact ⟨0, Nat.zero_le _, rfl, unhide HI3⟩
    case round =>
    obtain ⟨f, hf, rfl, HI⟩ := hrel
    clear HI3
    by_cases hfl : f < n
    · obtain ⟨d, hd⟩ : ∃ d, b / 8 = d := ⟨_, rfl⟩
      obtain ⟨r8, hr8⟩ : ∃ r, b % 8 = r := ⟨_, rfl⟩
      obtain ⟨m, hm⟩ : ∃ m, f * pf = m := ⟨_, rfl⟩
      obtain ⟨g, hg⟩ : ∃ g, m + d = g := ⟨_, rfl⟩
      obtain ⟨q, hq⟩ : ∃ q, 8 * g = q := ⟨_, rfl⟩
      obtain ⟨j, hj⟩ : ∃ j, q + r8 = j := ⟨_, rfl⟩
      obtain ⟨bx, hbx⟩ : ∃ x, bas L f = x := ⟨_, rfl⟩
      obtain ⟨sx, hsx⟩ : ∃ x, cnt L f p2 = x := ⟨_, rfl⟩
      obtain ⟨z, hz⟩ : ∃ z, bx + sx = z := ⟨_, rfl⟩
      obtain ⟨x, hx⟩ : ∃ x, fin1 L s pf bounds g = x := ⟨_, rfl⟩
      obtain ⟨y, hy⟩ : ∃ y, fin2 L s pf bounds g r8 = y := ⟨_, rfl⟩
      have hdp : d < pf := by have := unhide HP8; omega
      have hCz : bas L f + C L s f b = z := by
        unfold C
        rw [unhide HLL, (unhide HP).1, (unhide HP).2, hbx, hsx, hz]
      have hzl : z ≤ 1048576 := by
        have := bas_C_le L s f b
        rw [hCz, unhide HLL] at this
        omega
      have hxy : x + y = z := by
        have := fin_sum L s pf bounds f b hsu hbl2 (by rw [hd]; exact hdp)
        rw [hd, hm, hg, hr8, hx, hy, hCz] at this
        exact this
      have hx0 : r8 = 0 → x = z := fun h0 => by
        have := fin1_val L s pf bounds f b hbl2 (by rw [hd]; exact hdp) (by rw [hr8]; exact h0)
        rw [hd, hm, hg, hx, hCz] at this
        exact this
      obtain ⟨hgN, hjM, c1, c2⟩ := unhide HLC wr (unhide HI).2.2.1 f b d r8 m g q j x y hfl hd hr8 hdp hm hg hq hj hx hy
      have hf256 : f < 256 := by omega
      obtain ⟨c3, _⟩ := (unhide HI).cell hf256 hsx
      have c4 := (unhide HI).base hf256 hbx
      have m1 : (f : Int) * (pf : Int) = (m : Int) := by rw [← hm]; simp
      have m2 : (b : Int) / 8 = (d : Int) := by omega
      have m3 : (m : Int) + (d : Int) = (g : Int) := by omega
      have m4 : (b : Int) % 8 = (r8 : Int) := by omega
      have m5 : (8 : Int) * (g : Int) = (q : Int) := by omega
      have m6 : (q : Int) + (r8 : Int) = (j : Int) := by omega
      have m7 : (x : Int) + (y : Int) = (z : Int) := by omega
      have m8 : (bx : Int) + (sx : Int) = (z : Int) := by omega
      have o1 : (z : Int) % 4294967296 = (z : Int) := by omega
      have o2 : (y : Int) % 4294967296 = (y : Int) := by omega
      have hm1 : m ≤ g := by omega
      have hd1 : d ≤ g := by omega
      have hq1 : q ≤ j := by omega
      have hr1 : r8 ≤ j := by omega
      have g0 : (0 : Int) ≤ (g : Int) := by omega
      have g1' : (g : Int) < (N : Int) := by omega
      have j0 : (0 : Int) ≤ (j : Int) := by omega
      have j1 : (j : Int) < (M : Int) := by omega
      have i0 : (0 : Int) ≤ (f : Int) := by omega
      have i1 : (f : Int) < 256 := by omega
      have HZ := hide hx0
      clear hd hr8 hm hg hq hj hbx hsx hz hx hy hCz hxy hx0
      by_cases h8 : r8 = 0
      · have t1 : ((r8 : Int) == 0) = true := by rw [beq_iff_eq]; omega
        have t2 : ((x : Int) != (z : Int)) = false := by rw [unhide HZ h8]; simp
        clear h8
        go_wp2_with fail
        go_quiet (fail)
        go_wp2_with fail
        go_quiet (fail)
        go_wp2_with fail
        go_roundw
        case rel => exact ⟨f + 1, by omega, by go_num, (unhide HI).drewN _⟩
        case measure => simp [intOf]; omega
      · have t1 : ((r8 : Int) == 0) = false := by rw [beq_eq_false_iff_ne]; omega
        clear h8
        go_wp2_with fail
        go_quiet (fail)
        go_wp2_with fail
        go_quiet (fail)
        go_wp2_with fail
        go_roundw
        case rel => exact ⟨f + 1, by omega, by go_num, (unhide HI).drewN _⟩
        case measure => simp [intOf]; omega
    · go_wp2_with fail
      go_roundw
      case rel => exact ⟨b + 1, p2, by omega, by go_num, by rw [unhide HPE], hp2l, by have := unhide HP; rw [Nat.add_mul]; omega, unhide HI⟩
      case measure => simp [intOf]; omega
  have HBB := hide (unhide HI).2.2.2.1
  clear HI
  go_wp2_with fail
  go_loopw [27] (fun fv wr => ∃ (f : Nat), f ≤ n ∧ fv = .int .i64 f ∧ Hid (Below wb.heap.size wb wr)) (fun fv _ => n - (intOf fv).toNat)
  case atStart => exact ⟨0, Nat.zero_le _, rfl, unhide HBB⟩
  case round =>
  obtain ⟨f, hf, rfl, HI⟩ := hrel
  clear HBB
  by_cases hfl : f < n
  · go_wp2_with fail
    go_loopw [28] (fun bv wr => ∃ (b : Nat), bounds ≤ b ∧ b ≤ p8 ∧ bv = .int .i64 b ∧ Hid (Below wb.heap.size wb wr)) (fun bv _ => p8 - (intOf bv).toNat)
    case atStart => exact ⟨bounds, Nat.le_refl _, by have := unhide HP8; omega, rfl, unhide HI⟩
    case round =>
    clear HI
    obtain ⟨b, hb1, hb2, rfl, HI⟩ := hrel
    by_cases hbl3 : b < p8
    · obtain ⟨d, hd⟩ : ∃ d, b / 8 = d := ⟨_, rfl⟩
      obtain ⟨r8, hr8⟩ : ∃ r, b % 8 = r := ⟨_, rfl⟩
      obtain ⟨m, hm⟩ : ∃ m, f * pf = m := ⟨_, rfl⟩
      obtain ⟨g, hg⟩ : ∃ g, m + d = g := ⟨_, rfl⟩
      obtain ⟨q, hq⟩ : ∃ q, 8 * g = q := ⟨_, rfl⟩
      obtain ⟨j, hj⟩ : ∃ j, q + r8 = j := ⟨_, rfl⟩
      have hdp : d < pf := by have := unhide HP8; omega
      have hy : fin2 L s pf bounds g r8 = 0 := by
        have := fin2_past L s pf bounds f b hb1 (by rw [hd]; exact hdp)
        rw [hd, hm, hg, hr8] at this
        exact this
      obtain ⟨hgN, hjM, _, c2⟩ := unhide HLC wr (unhide HI) f b d r8 m g q j _ _ hfl hd hr8 hdp hm hg hq hj rfl hy
      have c3 : wr.cell? ⟨V, j, none⟩ = some (.int .u16 0) := c2
      have m1 : (f : Int) * (pf : Int) = (m : Int) := by rw [← hm]; simp
      have m2 : (b : Int) / 8 = (d : Int) := by omega
      have m3 : (m : Int) + (d : Int) = (g : Int) := by omega
      have m4 : (b : Int) % 8 = (r8 : Int) := by omega
      have m5 : (8 : Int) * (g : Int) = (q : Int) := by omega
      have m6 : (q : Int) + (r8 : Int) = (j : Int) := by omega
      have hm1 : m ≤ g := by omega
      have hd1 : d ≤ g := by omega
      have hq1 : q ≤ j := by omega
      have hr1 : r8 ≤ j := by omega
      clear hd hr8 hm hg hq hj hy c2
      go_wp2_with fail
      go_roundw
      case rel => exact ⟨b + 1, by omega, by omega, by go_num, unhide HI⟩
      case measure => simp [intOf]; omega
    · go_wp2_with fail
      go_roundw
      case rel => exact ⟨f + 1, by omega, by go_num, unhide HI⟩
      case measure => simp [intOf]; omega
  · go_wp2_with fail
    go_ret
    exact ⟨rfl, unhide HBE _ (unhide HI)⟩
end Go.Proofs.Qxb6603163a
