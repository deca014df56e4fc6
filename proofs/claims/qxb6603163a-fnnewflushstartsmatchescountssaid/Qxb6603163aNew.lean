/- NewFlushStarts: newFlushStarts (func 22), walked. -/
import Derived.Test.Qxb6603163aGrp
import Derived.Deep.DeepCutAuto
import Derived.Deep.CutBlock
import Derived.Deep.RegionHeld3
import Derived.Deep.DrawnRows
import Derived.Deep.MidRow
import Derived.BigRegion
namespace Go.Proofs.Qxb6603163a
open Go.ChangeShapes Go.WideShapes Go.ChangeAt Go.RowKit
set_option linter.unusedVariables false

theorem Try.size51 : (Try.prog.info? 51).map (·.size) = some 2 := by kernel_rfl
theorem make58 (N : Nat) (hN : N ≤ 2097152) (w : World) : (Instr.makeSlice 49 (.int .i64 N) (.int .i64 N)).run Try.prog w = .ok (.slice (some ⟨w.heap.size, 0, none⟩) N N) (w.alloc (.cells (madeCells z58 (N * 9)) 58)) := by
  obtain ⟨i, hi, hz0, hz1, hz2⟩ := info_parts Try.info58
  have hr := run_make (P := Try.prog) w 49 58 i (.agg z58) Try.underlying49 hi hz0 .i64 .i64 N N (by omega) (by omega) (by rw [hz2]; omega) (by omega)
  simpa [hz1, Value.cells] using hr

theorem rowIs_z58 (w : World) (N : Nat) (L : List Int) (s pf : Nat) : (w.alloc (.cells (madeCells z58 (N * 9)) 58)).rowIs w.heap.size 58 (9 * N) (grpA L s pf 0 0) := by
  refine ⟨_, heap_alloc_new _ _, by rw [size_madeCells]; omega, fun i hi => ?_⟩
  rw [grpA_zero]
  have h9 : i % 9 < 9 := Nat.mod_lt _ (by omega)
  simp only [madeCells, Array.getElem?_map]
  rw [Array.getElem?_eq_getElem (by simp; omega)]
  simp only [Array.getElem_range, Option.map_some]
  rw [show z58.size = 9 from rfl]
  generalize i % 9 = r at h9 ⊢
  have : r = 0 ∨ r = 1 ∨ r = 2 ∨ r = 3 ∨ r = 4 ∨ r = 5 ∨ r = 6 ∨ r = 7 ∨ r = 8 := by omega
  rcases this with rfl | rfl | rfl | rfl | rfl | rfl | rfl | rfl | rfl <;> rfl
theorem rowIs_z41 (w : World) : (w.alloc (.cells z41 41)).rowIs w.heap.size 41 256 (fun _ => .int .u32 0) :=
  ⟨z41, heap_alloc_new _ _, by unfold z41; exact Array.size_replicate, fun i hi => by unfold z41; rw [Array.getElem?_replicate, if_pos hi]⟩

def NewPost (L : List Int) (s pf bounds n N : Nat) (w : World) (e : Ending) (w' : World) : Prop :=
  ∃ G, e = .returned (.agg #[.int .i64 pf, .slice (some ⟨G, 0, none⟩) N N]) ∧ w.heap.size ≤ G ∧ w'.rowIs G 58 (9 * N) (grpB L s pf bounds n 0) ∧ Below w.heap.size w w'

/-- The memory of newFlushStarts in its loops. -/
def InvW (w wr : World) (R N pf : Nat) (ga : Nat → Value) (bf bg : Nat → Nat) : Prop :=
  wr.rowIs (R + 1) 58 (9 * N) ga ∧ wr.rowIs (R + 1 + 1) 51 2 (fun j => if j = 0 then .int .i64 pf else .slice (some ⟨R + 1, 0, none⟩) N N) ∧
  wr.rowIs (R + 1 + 1 + 1) 41 256 (fun f => .int .u32 (bf f)) ∧ wr.rowIs (R + 1 + 1 + 1 + 1) 41 256 (fun f => .int .u32 (bg f)) ∧
  wr.rowIs R 51 2 (fun j => if j = 0 then .int .i64 0 else .slice none 0 0) ∧ Below R w wr ∧ wr.heap.size = R + 5

theorem InvW.start (w : World) (N pf : Nat) (L : List Int) (s : Nat) :
    InvW w (((((w.alloc (.cells #[.int .i64 0, .slice none 0 0] 51)).alloc (.cells (madeCells z58 (N * 9)) 58)).alloc (.cells #[.int .i64 pf, .slice (some ⟨w.heap.size + 1, 0, none⟩) N N] 51)).alloc (.cells z41 41)).alloc (.cells z41 41))
      w.heap.size N pf (grpA L s pf 0 0) (fun f => C L s f 0) (fun _ => 0) := by
  have e1 : (w.alloc (.cells #[.int .i64 0, .slice none 0 0] 51)).heap.size = w.heap.size + 1 := by simp
  have r0 : (w.alloc (.cells #[.int .i64 0, .slice none 0 0] 51)).rowIs w.heap.size 51 2 (fun j => if j = 0 then .int .i64 0 else .slice none 0 0) :=
    ⟨_, heap_alloc_new _ _, rfl, fun i hi => by
      have : i = 0 ∨ i = 1 := by omega
      rcases this with rfl | rfl <;> rfl⟩
  have b1 : Below w.heap.size w (w.alloc (.cells #[.int .i64 0, .slice none 0 0] 51)) := (Below.refl _ _).alloc (Nat.le_refl _) _
  generalize w.alloc (.cells #[.int .i64 0, .slice none 0 0] 51) = w1 at *
  have r1 := rowIs_z58 w1 N L s pf
  have e2 : (w1.alloc (.cells (madeCells z58 (N * 9)) 58)).heap.size = w.heap.size + 1 + 1 := by simp [e1]
  have b2 : Below w.heap.size w (w1.alloc (.cells (madeCells z58 (N * 9)) 58)) := b1.alloc (by omega) _
  have r0' := r0.alloc (.cells (madeCells z58 (N * 9)) 58)
  rw [e1] at r1
  generalize w1.alloc (.cells (madeCells z58 (N * 9)) 58) = w2 at *
  have r2 : (w2.alloc (.cells #[.int .i64 pf, .slice (some ⟨w.heap.size + 1, 0, none⟩) N N] 51)).rowIs w2.heap.size 51 2 (fun j => if j = 0 then .int .i64 pf else .slice (some ⟨w.heap.size + 1, 0, none⟩) N N) :=
    ⟨_, heap_alloc_new _ _, rfl, fun i hi => by
      have : i = 0 ∨ i = 1 := by omega
      rcases this with rfl | rfl <;> rfl⟩
  rw [e2] at r2
  have e3 : (w2.alloc (.cells #[.int .i64 pf, .slice (some ⟨w.heap.size + 1, 0, none⟩) N N] 51)).heap.size = w.heap.size + 1 + 1 + 1 := by simp [e2]
  have b3 : Below w.heap.size w (w2.alloc (.cells #[.int .i64 pf, .slice (some ⟨w.heap.size + 1, 0, none⟩) N N] 51)) := b2.alloc (by omega) _
  have r0'' := r0'.alloc (.cells #[.int .i64 pf, .slice (some ⟨w.heap.size + 1, 0, none⟩) N N] 51)
  have r1' := r1.alloc (.cells #[.int .i64 pf, .slice (some ⟨w.heap.size + 1, 0, none⟩) N N] 51)
  generalize w2.alloc (.cells #[.int .i64 pf, .slice (some ⟨w.heap.size + 1, 0, none⟩) N N] 51) = w3 at *
  have r3 := rowIs_z41 w3
  have e4 : (w3.alloc (.cells z41 41)).heap.size = w.heap.size + 1 + 1 + 1 + 1 := by simp [e3]
  have r4 := rowIs_z41 (w3.alloc (.cells z41 41))
  rw [e3] at r3
  rw [e4] at r4
  refine ⟨(r1'.alloc _).alloc _, (r2.alloc _).alloc _, (r3.alloc _).congr fun i hi => ?_, r4.congr fun i hi => rfl, (r0''.alloc _).alloc _, (b3.alloc (by omega) _).alloc (by omega) _, by simp [e3]⟩
  show Value.int .u32 0 = Value.int .u32 (C L s i 0 : Int)
  rw [C_zero]
  rfl
theorem InvW.whole {w wr : World} {R N pf : Nat} {ga : Nat → Value} {bf bg : Nat → Nat} (h : InvW w wr R N pf ga bf bg) :
    ∃ c d, wr.heap[R + 1 + 1 + 1]? = some (.cells c 41 (0, 0)) ∧ wr.heap[R + 1 + 1 + 1 + 1]? = some (.cells d 41 (0, 0)) ∧ c.size = 256 ∧ d.size = 256 ∧ c.all (·.oneCell') = true ∧ Hid (InvW w (wr.setRow (R + 1 + 1 + 1 + 1) c) R N pf ga bf bf) := by
  obtain ⟨h1, h2, ⟨c, c1, c2, c3⟩, ⟨d, d1, d2, d3⟩, h5, h6, h7⟩ := h
  have ho : ∀ k, k ≠ R + 1 + 1 + 1 + 1 → (wr.setRow (R + 1 + 1 + 1 + 1) c).heap[k]? = wr.heap[k]? := by
    intro k hk
    simp [World.setRow, Array.getElem?_modify, Ne.symm hk]
  refine ⟨c, d, c1, d1, c2, d2, ?_, h1.of_block (ho _ (by omega)), h2.of_block (ho _ (by omega)), ⟨c, by rw [ho _ (by omega)]; exact c1, c2, c3⟩, ⟨c, setRow_heap _ _ _ _ 41 (0, 0) d1, c2, c3⟩, h5.of_block (ho _ (by omega)), below_setRow h6 (by omega) _, by simpa [World.setRow] using h7⟩
  rw [Array.all_eq_true]
  intro i hi
  have := c3 i (by omega)
  rw [Array.getElem?_eq_getElem hi, Option.some.injEq] at this
  rw [this]
  rfl

theorem InvW.cells {w wr : World} {R N pf : Nat} {ga : Nat → Value} {bf bg : Nat → Nat} (h : InvW w wr R N pf ga bf bg) {q f x y : Nat} (hq : q < N) (hf : f < 256) (hx : bf f = x) (hy : bg f = y) :
    wr.cell? ⟨R + 1 + 1, 1, none⟩ = some (.slice (some ⟨R + 1, 0, none⟩) N N) ∧ wr.cell? ⟨R + 1 + 1 + 1, f, none⟩ = some (.int .u32 x) ∧ wr.cell? ⟨R + 1 + 1 + 1 + 1, f, none⟩ = some (.int .u32 y) ∧
    wr.cell? ⟨R + 1, q * 9, none⟩ = some (ga (q * 9)) ∧ wr.frozen? ⟨R + 1, q * 9, none⟩ = false := by
  obtain ⟨h1, h2, h3, h4, h5, h6, h7⟩ := h
  refine ⟨by rw [h2.cell (i := 1) (by omega)]; rfl, by rw [h3.cell hf, hx], by rw [h4.cell hf, hy], h1.cell (by omega), h1.frozen _⟩

theorem cells2 {w wr w2 : World} {R N pf : Nat} {ga : Nat → Value} {bf bg : Nat → Nat} {q f x y r : Nat} {v : Value} (hw : wr.setCell ⟨R + 1, q * 9, none⟩ v = w2) (h : InvW w wr R N pf ga bf bg) (hq : q < N) (hf : f < 256) (hx : bf f = x) (hy : bg f = y) (hr : r < 8) :
    w2.cell? ⟨R + 1 + 1 + 1, f, none⟩ = some (.int .u32 x) ∧ w2.cell? ⟨R + 1 + 1 + 1 + 1, f, none⟩ = some (.int .u32 y) ∧
    w2.cell? ⟨R + 1, q * 9 + 1 + r, none⟩ = some (ga (q * 9 + 1 + r)) ∧ w2.frozen? ⟨R + 1, q * 9 + 1 + r, none⟩ = false := by
  obtain ⟨h1, h2, h3, h4, h5, h6, h7⟩ := h
  subst hw
  have k1 := h1.set (q * 9) v
  refine ⟨by rw [(h3.setOther (by show R + 1 + 1 + 1 ≠ R + 1; omega) v).cell hf, hx], by rw [(h4.setOther (by show R + 1 + 1 + 1 + 1 ≠ R + 1; omega) v).cell hf, hy], ?_, k1.frozen _⟩
  rw [k1.cell (by omega), if_neg (by omega)]

theorem InvW.stepA {w wr w2 : World} {R N pf : Nat} {L : List Int} {s b f m d q r x y z : Nat} (h : InvW w wr R N pf (grpA L s pf b f) (fun f => C L s f b) (fun f => C L s f (8 * (b / 8))))
    (hw : wr.setCell ⟨R + 1, q * 9, none⟩ (.int .u32 y) = w2) (hq : q < N)
    (hh : f * pf = m ∧ b / 8 = d ∧ m + d = q ∧ b % 8 = r ∧ C L s f b = x ∧ C L s f (8 * (b / 8)) = y ∧ x - y = z) (hdp : d < pf) :
    InvW w (w2.setCell ⟨R + 1, q * 9 + 1 + r, none⟩ (.int .u16 z)).drew R N pf (grpA L s pf b (f + 1)) (fun f => C L s f b) (fun f => C L s f (8 * (b / 8))) := by
  obtain ⟨h1, h2, h3, h4, h5, h6, h7⟩ := h
  obtain ⟨a1, a2, a3, a4, a5, a6, a7⟩ := hh
  subst hw
  have n1 : R + 1 + 1 ≠ R + 1 := by omega
  have n2 : R + 1 + 1 + 1 ≠ R + 1 := by omega
  have n3 : R + 1 + 1 + 1 + 1 ≠ R + 1 := by omega
  have n4 : R ≠ R + 1 := by omega
  refine ⟨?_, ((h2.setOther n1 _).setOther n1 _).drew, ((h3.setOther n2 _).setOther n2 _).drew, ((h4.setOther n3 _).setOther n3 _).drew, ((h5.setOther n4 _).setOther n4 _).drew, ((h6.setCell (by simp) _).setCell (by simp) _).drew, by simpa using h7⟩
  refine (((h1.set (q * 9) _).set (q * 9 + 1 + r) _).congr fun j hj => ?_).drew
  rw [← grpA_step L s pf b f q (by omega) (by rw [a1, a2, a3]) j, a5, a6, a7, a4, Nat.mul_comm 9 q]
theorem InvW.rowA {w wr : World} {R N pf n : Nat} {bf bg : Nat → Nat} {L : List Int} {s b f : Nat} (h : InvW w wr R N pf (grpA L s pf b f) bf bg) (hf : f = n) (hN : n * pf = N) : InvW w wr R N pf (grpA L s pf (b + 1) 0) bf bg := by
  obtain ⟨h1, h2⟩ := h
  subst hf
  exact ⟨h1.congr fun j hj => grpA_row L s pf b f j (by rw [hN]; exact hj), h2⟩

theorem run_chunk {s b b1 p1 p2 ids fr tu : Nat} (hs : 1 ≤ s) (hdv : 4096 % s = 0) (hp1 : b * s = p1) (hp2 : b1 * s = p2) (h12 : p1 + s = p2) (hb1 : b + 1 = b1) (hfr : min p1 ids = fr) (htu : min p2 ids = tu) : fr = tu ∨ fr / 4096 = (tu - 1) / 4096 := by
  by_cases he : fr = tu
  · exact .inl he
  · right
    have hf1 : fr = b * s := by omega
    have h1 : b * s ≤ tu - 1 := by omega
    have h2 : tu - 1 < (b + 1) * s := by rw [hb1, hp2]; omega
    have hm : 4096 = s * (4096 / s) := (Nat.mul_div_cancel' (Nat.dvd_of_mod_eq_zero hdv)).symm
    have h3 : (tu - 1) / s = b := Nat.div_eq_of_lt_le h1 h2
    have h4 : fr / s = b := by rw [hf1, Nat.mul_div_cancel _ (by omega)]
    rw [hm, ← Nat.div_div_eq_div_mul, ← Nat.div_div_eq_div_mul, h3, h4]

theorem run_step {S ids : Nat} {v : Value} {ds : List (List Int)} {w wr : World} {L : List Int} (HALL : Hid (w.cell? ⟨S, 0, none⟩ = some v ∧ Mt w v ds ∧ Full ds ∧ ds.flatten = L ∧ L.length = ids)) (hb : Below w.heap.size w wr) (hI : ids ≤ 1048576) (fr tu : Nat)
    (h1 : fr ≤ tu) (h2 : tu ≤ ids) (hq : fr = tu ∨ fr / 4096 = (tu - 1) / 4096) :
    Calls Try.prog 24 #[.pointer (some ⟨S, 0, none⟩), .int .u32 fr, .int .u32 tu] wr fun e w' => RunPost ((L.drop fr).take (tu - fr)) w wr e w' := by
  obtain ⟨a1, a2, a3, a4, a5⟩ := unhide HALL
  subst a4
  exact run_any S v ds w wr hb (by rw [World.cell?_of_block (hb.block _ (World.block_lt_of_cell? w _ a1))]; exact a1) a2 a3 (by omega) fr tu h1 (by omega) hq

theorem run_cell {w wr : World} {ra : Option Addr} {rl rc k fr tu i : Nat} {L : List Int} (hrd : Rd w (.slice ra rl rc) ((L.drop fr).take (tu - fr))) (hk : ((L.drop fr).take (tu - fr)).length = k) (hi : i < k) (hb : Below w.heap.size w wr) :
    ∃ b2 off2 xn : Nat, ra = some ⟨b2, off2, none⟩ ∧ wr.cell? ⟨b2, off2 + i, none⟩ = some (.int .u8 xn) ∧ xn < 256 ∧ L[fr + i]? = some (xn : Int) := by
  obtain ⟨b2, off2, rfl, hc⟩ := hrd.cells (by omega)
  have h1 := hc i (by omega)
  have h2 : ((L.drop fr).take (tu - fr))[i]? = L[fr + i]? := by
    rw [List.getElem?_take, if_pos (by simp at hk; omega), List.getElem?_drop]
  obtain ⟨x, hx⟩ : ∃ x, L[fr + i]? = some x := ⟨_, by rw [← h2]; exact List.getElem?_eq_getElem (by omega)⟩
  rw [hx] at h2
  rw [List.getD_eq_getElem?_getD, h2] at h1
  have hxb := hrd.1 x (List.mem_of_getElem? h2)
  obtain ⟨xn, rfl⟩ : ∃ xn : Nat, x = (xn : Int) := ⟨x.toNat, by omega⟩
  exact ⟨b2, off2, xn, rfl, by rw [World.cell?_of_block (hb.block b2 (World.block_lt_of_cell? w _ h1))]; exact h1, by omega, hx⟩

theorem InvW.beforeCell {w wr : World} {R N pf : Nat} {ga : Nat → Value} {bf bg : Nat → Nat} (h : InvW w wr R N pf ga bf bg) {f x : Nat} (hf : f < 256) (hx : bf f = x) :
    wr.cell? ⟨R + 1 + 1 + 1, f, none⟩ = some (.int .u32 x) ∧ wr.frozen? ⟨R + 1 + 1 + 1, f, none⟩ = false := by
  obtain ⟨h1, h2, h3, h4, h5, h6, h7⟩ := h
  exact ⟨by rw [h3.cell hf, hx], h3.frozen _⟩

theorem InvW.stepC {w wr : World} {R N pf : Nat} {ga : Nat → Value} {bg : Nat → Nat} {L : List Int} {k xn x : Nat} (h : InvW w wr R N pf ga (fun f => cnt L f k) bg) (hL : L[k]? = some (xn : Int)) (hx : cnt L xn k = x) :
    InvW w (wr.setCell ⟨R + 1 + 1 + 1, xn, none⟩ (.int .u32 ((x : Int) + 1))) R N pf ga (fun f => cnt L f (k + 1)) bg := by
  obtain ⟨h1, h2, h3, h4, h5, h6, h7⟩ := h
  have n0 : R + 1 ≠ R + 1 + 1 + 1 := by omega
  have n1 : R + 1 + 1 ≠ R + 1 + 1 + 1 := by omega
  have n3 : R + 1 + 1 + 1 + 1 ≠ R + 1 + 1 + 1 := by omega
  have n4 : R ≠ R + 1 + 1 + 1 := by omega
  refine ⟨h1.setOther n0 _, h2.setOther n1 _, ?_, h4.setOther n3 _, h5.setOther n4 _, h6.setCell (by simp; omega) _, by simpa using h7⟩
  refine (h3.set xn _).congr fun j hj => ?_
  show (if j = xn then Value.int .u32 ((x : Int) + 1) else Value.int .u32 (cnt L j k : Int)) = Value.int .u32 (cnt L j (k + 1) : Int)
  have hs := cnt_succ L j k _ hL
  by_cases hjx : j = xn
  · subst hjx
    rw [if_pos rfl] at hs ⊢
    rw [hs, hx]
    rfl
  · rw [if_neg (by omega)] at hs
    rw [if_neg hjx, hs]
    rfl

theorem InvW.toB {w wr : World} {R N pf : Nat} {bf bg : Nat → Nat} {L : List Int} {s b : Nat} (h : InvW w wr R N pf (grpA L s pf b 0) bf bg) : InvW w wr R N pf (grpB L s pf b 0 0) bf bg := by
  obtain ⟨h1, h2⟩ := h
  exact ⟨h1.congr fun j hj => grpA_grpB L s pf b j, h2⟩
theorem InvW.rowB {w wr : World} {R N pf : Nat} {bf bg : Nat → Nat} {L : List Int} {s b f g : Nat} (h : InvW w wr R N pf (grpB L s pf b f g) bf bg) (hg : g = pf) (hp : 0 < pf) : InvW w wr R N pf (grpB L s pf b (f + 1) 0) bf bg := by
  obtain ⟨h1, h2⟩ := h
  subst hg
  exact ⟨h1.congr fun j hj => grpB_row L s g b f j hp, h2⟩
theorem InvW.cellsB {w wr : World} {R N pf : Nat} {bf bg : Nat → Nat} {L : List Int} {s b f g q x : Nat} (h : InvW w wr R N pf (grpB L s pf b f g) bf bg) (hq : q < N) (hg : g < pf) (hfq : f * pf + g = q) (hx : fst0 L s f g b = x) :
    wr.cell? ⟨R + 1 + 1, 1, none⟩ = some (.slice (some ⟨R + 1, 0, none⟩) N N) ∧ wr.cell? ⟨R + 1, q * 9, none⟩ = some (.int .u32 x) ∧ wr.frozen? ⟨R + 1, q * 9, none⟩ = false := by
  obtain ⟨h1, h2, h3, h4, h5, h6, h7⟩ := h
  refine ⟨by rw [h2.cell (i := 1) (by omega)]; rfl, ?_, h1.frozen _⟩
  rw [h1.cell (by omega), Nat.mul_comm, grpB_first L s pf b f g q hg hfq, hx]
theorem InvW.stepB {w wr : World} {R N pf : Nat} {bf bg : Nat → Nat} {L : List Int} {s b f g m q x st z : Nat} (h : InvW w wr R N pf (grpB L s pf b f g) bf bg) (hq : q < N) (hg : g < pf)
    (hh : f * pf = m ∧ m + g = q ∧ fst0 L s f g b = x ∧ x + st = z) (hst : bas L f = st) : InvW w (wr.setCell ⟨R + 1, q * 9, none⟩ (.int .u32 z)) R N pf (grpB L s pf b f (g + 1)) bf bg := by
  obtain ⟨h1, h2, h3, h4, h5, h6, h7⟩ := h
  obtain ⟨a1, a2, a3, a4⟩ := hh
  have n1 : R + 1 + 1 ≠ R + 1 := by omega
  have n2 : R + 1 + 1 + 1 ≠ R + 1 := by omega
  have n3 : R + 1 + 1 + 1 + 1 ≠ R + 1 := by omega
  have n4 : R ≠ R + 1 := by omega
  refine ⟨(h1.set (q * 9) _).congr fun j hj => ?_, h2.setOther n1 _, h3.setOther n2 _, h4.setOther n3 _, h5.setOther n4 _, h6.setCell (by simp) _, by simpa using h7⟩
  rw [← grpB_step L s pf b f g q hg (by rw [a1, a2]) j, a3, hst, a4, Nat.mul_comm 9 q]
theorem bas_step {s bounds x3 ids S f st x : Nat} {v : Value} {ds : List (List Int)} {w : World} {L : List Int} (HX : Hid (x3 * s ≤ ids + s ∧ ids ≤ bounds * s)) (HALL : Hid (w.cell? ⟨S, 0, none⟩ = some v ∧ Mt w v ds ∧ Full ds ∧ ds.flatten = L ∧ L.length = ids))
    (hst : bas L f = st) (hx : C L s f bounds = x) : bas L (f + 1) = st + x ∧ st + x ≤ ids := by
  have h1 := (unhide HX).2
  have h2 := (unhide HALL).2.2.2.2
  have h3 : C L s f bounds = L.count (f : Int) := by
    unfold C
    exact cnt_all L f _ (by omega)
  have h4 : bas L (f + 1) = st + x := by rw [← hst, ← hx, h3]; rfl
  refine ⟨h4, ?_⟩
  rw [← h4, ← h2]
  exact bas_le L (f + 1)
theorem InvW.fin {w wr : World} {R N pf : Nat} {ga : Nat → Value} {bf bg : Nat → Nat} (h : InvW w wr R N pf ga bf bg) :
    wr.cell? ⟨R + 1 + 1, 0, none⟩ = some (.int .i64 pf) ∧ wr.cell? ⟨R + 1 + 1, 1, none⟩ = some (.slice (some ⟨R + 1, 0, none⟩) N N) ∧
    wr.cell? ⟨R, 0, none⟩ = some (.int .i64 0) ∧ wr.cell? ⟨R, 1, none⟩ = some (.slice none 0 0) ∧ wr.frozen? ⟨R, 0, none⟩ = false ∧ wr.frozen? ⟨R, 1, none⟩ = false := by
  obtain ⟨h1, h2, h3, h4, h5, h6, h7⟩ := h
  exact ⟨by rw [h2.cell (i := 0) (by omega)]; rfl, by rw [h2.cell (i := 1) (by omega)]; rfl, by rw [h5.cell (i := 0) (by omega)]; rfl, by rw [h5.cell (i := 1) (by omega)]; rfl, h5.frozen _, h5.frozen _⟩
theorem InvW.result {w wr : World} {R N pf : Nat} {ga : Nat → Value} {bf bg : Nat → Nat} (h : InvW w wr R N pf ga bf bg) (v0 v1 : Value) :
    ((wr.setCell ⟨R, 0, none⟩ v0).setCell ⟨R, 1, none⟩ v1).heap[R]? = some (.cells #[v0, v1] 51 (0, 0)) := by
  obtain ⟨h1, h2, h3, h4, h5, h6, h7⟩ := h
  obtain ⟨c, c1, c2, c3⟩ := (h5.set 0 v0).set 1 v1
  rw [c1]
  congr 2
  apply Array.ext_getElem?
  intro i
  by_cases hi : i < 2
  · rw [c3 i hi]
    have : i = 0 ∨ i = 1 := by omega
    rcases this with rfl | rfl <;> rfl
  · rw [Array.getElem?_eq_none (by omega), Array.getElem?_eq_none (by simp; omega)]
theorem InvW.done {w wr : World} {R N pf n b s : Nat} {L : List Int} {bf bg : Nat → Nat} (h : InvW w wr R N pf (grpB L s pf b n 0) bf bg) {v0 v1 : Value} (hR : R = w.heap.size) :
    NewPost L s pf b n N w (.returned (.agg #[.int .i64 pf, .slice (some ⟨R + 1, 0, none⟩) N N])) ((wr.setCell ⟨R, 0, none⟩ v0).setCell ⟨R, 1, none⟩ v1) := by
  obtain ⟨h1, h2, h3, h4, h5, h6, h7⟩ := h
  subst hR
  have n4 : w.heap.size + 1 ≠ w.heap.size := by omega
  exact ⟨_, rfl, by omega, (h1.setOther n4 _).setOther n4 _, (h6.setCell (by simp) _).setCell (by simp) _⟩

set_option maxRecDepth 100000 in
set_option maxHeartbeats 8000000 in
theorem new_any (S : Nat) (v : Value) (ds : List (List Int)) (n s bounds pf N : Nat) (w : World) (hS : w.cell? ⟨S, 0, none⟩ = some v) (h : Mt w v ds) (hf : Full ds) (hI : ds.flatten.length ≤ 1048576)
    (hn : n ≤ 256) (hs1 : 1 ≤ s) (hs : s ≤ 4096) (hdv : 4096 % s = 0) (hb : (ds.flatten.length + s - 1) / s + 1 = bounds) (hpf : (bounds + 7) / 8 = pf) (hN : n * pf = N) (hNN : N ≤ 2097152) :
    Calls Try.prog 22 #[.pointer (some ⟨S, 0, none⟩), .int .i64 n, .int .i64 s] w fun e w' => NewPost ds.flatten s pf bounds n N w e w' := by
  have hSb := World.block_lt_of_cell? w _ hS
  have hlen : ∀ w1, Below w.heap.size w w1 → Calls Try.prog 23 #[.pointer (some ⟨S, 0, none⟩)] w1 fun e w' => LenPost ds.flatten.length w1 e w' :=
    fun w1 hb1 => len_any S v ds w1 (by rw [World.cell?_of_block (hb1.block _ hSb)]; exact hS) (h.below hb1) hf hI
  obtain ⟨L, hL⟩ : ∃ L, ds.flatten = L := ⟨_, rfl⟩
  rw [hL] at hlen hI hb ⊢
  obtain ⟨ids, hids⟩ : ∃ ids, L.length = ids := ⟨_, rfl⟩
  rw [hids] at hlen hI hb
  have HALL : Hid (w.cell? ⟨S, 0, none⟩ = some v ∧ Mt w v ds ∧ Full ds ∧ ds.flatten = L ∧ L.length = ids) := ⟨hS, h, hf, hL, hids⟩
  have HLEN := hide hlen
  obtain ⟨x1, hx1⟩ : ∃ x, ids + s = x := ⟨_, rfl⟩
  obtain ⟨x2, hx2⟩ : ∃ x, ids + s - 1 = x := ⟨_, rfl⟩
  obtain ⟨x3, hx3⟩ : ∃ x, x2 / s = x := ⟨_, rfl⟩
  rw [hx2, hx3] at hb
  have HX : Hid (x3 * s ≤ ids + s ∧ ids ≤ bounds * s) := by
    have h1 := Nat.div_mul_le_self x2 s
    have h2 := Nat.lt_div_mul_add (a := x2) (b := s) (by omega)
    rw [hx3] at h1 h2
    refine ⟨by omega, ?_⟩
    rw [← hb, Nat.add_mul, Nat.one_mul]
    omega
  have a1 : (ids : Int) + (s : Int) = (x1 : Int) := by omega
  have a2 : (x1 : Int) - 1 = (x2 : Int) := by omega
  have a3 : (x2 : Int) / (s : Int) = (x3 : Int) := by rw [← hx3]; simp
  have a4 : (x3 : Int) + 1 = (bounds : Int) := by omega
  obtain ⟨x5, hx5⟩ : ∃ x, bounds + 8 = x := ⟨_, rfl⟩
  obtain ⟨x6, hx6⟩ : ∃ x, bounds + 7 = x := ⟨_, rfl⟩
  have a5 : (bounds : Int) + 8 = (x5 : Int) := by omega
  have a6 : (x5 : Int) - 1 = (x6 : Int) := by omega
  have a7 : (x6 : Int) / 8 = (pf : Int) := by omega
  have a8 : (n : Int) * (pf : Int) = (N : Int) := by rw [← hN]; simp
  have hx3l : x3 ≤ x2 := by rw [← hx3]; exact Nat.div_le_self _ _
  have hx2l : x2 ≤ 1052672 := by omega
  have hs0 : ((s : Int) == 0) = false := by rw [beq_eq_false_iff_ne]; omega
  have hmk := make58 N hNN
  have hz := zero41
  clear hlen h hf hS hL hids hx2 hx3
  go_enter Try.func22, Try.ntmps22
  go_wp2_with fail
  refine (unhide HLEN _ ((Below.refl _ _).alloc (Nat.le_refl _) _)).mono ?_
  rintro e w1 ⟨rfl, rfl⟩
  go_wp2_with fail
  have HI0 := hide (InvW.start w N pf L s)
  go_loopw [42] (fun bv wr => ∃ (b : Nat) (bg : Nat → Nat), b ≤ bounds ∧ bv = .int .i64 b ∧ Hid (InvW w wr w.heap.size N pf (grpA L s pf b 0) (fun f => C L s f b) bg ∧ (b % 8 ≠ 0 → bg = fun f => C L s f (8 * (b / 8))))) (fun bv _ => bounds - (intOf bv).toNat)
  case atStart => exact ⟨0, _, Nat.zero_le _, rfl, unhide HI0, fun h => absurd rfl h⟩
  case round =>
  obtain ⟨b, bg, hbb, rfl, HI⟩ := hrel
  clear HI0 hmk hz
  by_cases hlt : b < bounds
  · go_upto_if 47 with fail
    go_cut [13] (fun bv w1 => bv = .int .i64 b ∧ Hid (InvW w w1 w.heap.size N pf (grpA L s pf b 0) (fun f => C L s f b) (fun f => C L s f (8 * (b / 8)))))
    case first =>
      by_cases h8 : b % 8 = 0
      · have t1 : ((b : Int) % 8 == 0) = true := by rw [beq_iff_eq]; omega
        obtain ⟨c, d, hc, hd, hcs, hds, hc1, HW⟩ := (unhide HI).1.whole
        have hi41 : (Try.prog.info? 41).map (·.size) = some c.size := by rw [hcs]; exact Try.size41
        have hdc : d.size = c.size := by omega
        have hbe : 8 * (b / 8) = b := by omega
        go_wp2_with (first | (refine wpList_load_row rfl 41 (.tmp 11) rfl (w.heap.size + 1 + 1 + 1) rfl 41 c (0, 0) _ hc Try.underlying41 rfl hi41 ?_) | (refine wpList_store_row rfl 41 (.tmp 12) (.tmp 48) rfl (w.heap.size + 1 + 1 + 1 + 1) c rfl rfl 41 d hd hi41 hdc hc1 ?_))
        go_meet
        exact ⟨rfl, by rw [hbe]; exact unhide HW⟩
      · have t1 : ((b : Int) % 8 == 0) = false := by rw [beq_eq_false_iff_ne]; omega
        go_wp2_with fail
        go_meet
        exact ⟨rfl, by have := (unhide HI).2 h8; rw [← this]; exact (unhide HI).1⟩
    case rest =>
      obtain ⟨rfl, HC⟩ := hcut
      clear HI
      go_wp2_with fail
      obtain ⟨wt, rfl⟩ : ∃ wt, wt = wr := ⟨_, rfl⟩
      go_loopw [50] (fun fv wr => ∃ (f : Nat), f ≤ n ∧ fv = .int .i64 f ∧ Hid (InvW w wr w.heap.size N pf (grpA L s pf b f) (fun f => C L s f b) (fun f => C L s f (8 * (b / 8))))) (fun fv _ => n - (intOf fv).toNat)
      case atStart => exact ⟨0, Nat.zero_le _, rfl, unhide HC⟩
      case round =>
      obtain ⟨f, hfn, rfl, HD⟩ := hrel
      by_cases hfl : f < n
      · obtain ⟨m, hm⟩ : ∃ m, f * pf = m := ⟨_, rfl⟩
        obtain ⟨d, hd⟩ : ∃ d, b / 8 = d := ⟨_, rfl⟩
        obtain ⟨q, hq⟩ : ∃ q, m + d = q := ⟨_, rfl⟩
        obtain ⟨r, hr⟩ : ∃ r, b % 8 = r := ⟨_, rfl⟩
        have hdp : d < pf := by omega
        have hqN : q < N := by
          have h1 : (f + 1) * pf ≤ n * pf := Nat.mul_le_mul_right pf hfl
          rw [Nat.add_mul, Nat.one_mul] at h1
          omega
        obtain ⟨x, hx⟩ : ∃ x, C L s f b = x := ⟨_, rfl⟩
        obtain ⟨y, hy⟩ : ∃ y, C L s f (8 * (b / 8)) = y := ⟨_, rfl⟩
        obtain ⟨z, hz⟩ : ∃ z, x - y = z := ⟨_, rfl⟩
        have hcg := C_group L s f b hs
        have hcl := C_le L s f b
        rw [hx, hy] at hcg
        rw [hx, (unhide HALL).2.2.2.2] at hcl
        have m1 : (f : Int) * (pf : Int) = (m : Int) := by rw [← hm]; simp
        have m2 : (b : Int) / 8 = (d : Int) := by omega
        have m3 : (m : Int) + (d : Int) = (q : Int) := by omega
        have m4 : (b : Int) % 8 = (r : Int) := by omega
        have m5 : (x : Int) - (y : Int) = (z : Int) := by omega
        have m6 : (z : Int) % 4294967296 = (z : Int) := by omega
        have m7 : (z : Int) % 65536 = (z : Int) := by omega
        have m8 : r < 8 := by omega
        have hf256 : f < 256 := by omega
        obtain ⟨c1, c2, c3, c4, c5⟩ := (unhide HD).cells hqN hf256 hx hy
        have HQ := hide (And.intro hm (And.intro hd (And.intro hq (And.intro hr (And.intro hx (And.intro hy hz))))))
        clear hm hd hq hr hx hy hz hcg
        go_wp2_with fail
        obtain ⟨w2, hw2⟩ : ∃ w2, wr.setCell ⟨w.heap.size + 1, q * 9, none⟩ (.int .u32 y) = w2 := ⟨_, rfl⟩
        rw [hw2]
        obtain ⟨e1, e2, e3, e4⟩ := cells2 hw2 (unhide HD) hqN hf256 (unhide HQ).2.2.2.2.1 (unhide HQ).2.2.2.2.2.1 m8
        have HW2 := hide hw2
        clear hw2 c1 c2 c3 c4 c5
        have i0 : (0 : Int) ≤ (f : Int) := by omega
        have i1 : (f : Int) < 256 := by omega
        have i2 : (0 : Int) ≤ (r : Int) := by omega
        have i3 : (r : Int) < 8 := by omega
        go_region
        go_wp2_with fail
        go_roundw
        case rel => exact ⟨f + 1, by omega, by go_num, (unhide HD).stepA (unhide HW2) hqN (unhide HQ) hdp⟩
        case measure => simp [intOf]; omega
      · have hfe : f = n := by omega
        have HE : Hid (InvW w wr w.heap.size N pf (grpA L s pf (b + 1) 0) (fun f => C L s f b) (fun f => C L s f (8 * (b / 8)))) := (unhide HD).rowA hfe hN
        clear HD
        obtain ⟨p1, hp1⟩ : ∃ p, b * s = p := ⟨_, rfl⟩
        obtain ⟨p2, hp2⟩ : ∃ p, (b + 1) * s = p := ⟨_, rfl⟩
        have hp12 : p1 + s = p2 := by rw [← hp1, ← hp2, Nat.add_mul, Nat.one_mul]
        have hbs : p1 ≤ ids + s := by
          have h1 : b * s ≤ x3 * s := Nat.mul_le_mul_right s (by omega)
          have := (unhide HX).1
          omega
        obtain ⟨b1, hb1⟩ : ∃ x, b + 1 = x := ⟨_, rfl⟩
        rw [hb1] at hp2
        have n1 : (b : Int) * (s : Int) = (p1 : Int) := by rw [← hp1]; simp
        have n2 : (b1 : Int) * (s : Int) = (p2 : Int) := by rw [← hp2]; simp
        have n3 : (b : Int) + 1 = (b1 : Int) := by omega
        obtain ⟨fr, hfr⟩ : ∃ x, min p1 ids = x := ⟨_, rfl⟩
        obtain ⟨tu, htu⟩ : ∃ x, min p2 ids = x := ⟨_, rfl⟩
        have o1 : ∀ (ts : Array TypeId) (t : TypeId) (w : World), (Builtin.min_ ts t #[.int .i64 p1, .int .i64 ids]).run Try.prog w = .ok (.int .i64 fr) w := by
          intro ts t w
          rw [run_min_int2, show (if (ids : Int) < (p1 : Int) then (ids : Int) else (p1 : Int)) = (fr : Int) by split <;> omega]
        have o2 : ∀ (ts : Array TypeId) (t : TypeId) (w : World), (Builtin.min_ ts t #[.int .i64 p2, .int .i64 ids]).run Try.prog w = .ok (.int .i64 tu) w := by
          intro ts t w
          rw [run_min_int2, show (if (ids : Int) < (p2 : Int) then (ids : Int) else (p2 : Int)) = (tu : Int) by split <;> omega]
        have o3 : (fr : Int) % 4294967296 = (fr : Int) := by omega
        have o4 : (tu : Int) % 4294967296 = (tu : Int) := by omega
        have HP := hide (And.intro hp1 (And.intro hp2 (And.intro hb1 (And.intro hfr htu))))
        clear hp1 hp2 hb1 hfr htu
        have hk1 : fr ≤ tu := by have := unhide HP; omega
        have hk2 : tu ≤ ids := by have := unhide HP; omega
        have hrun := run_step HALL (unhide HE).2.2.2.2.2.1 hI fr tu hk1 hk2 (run_chunk hs1 hdv (unhide HP).1 (unhide HP).2.1 hp12 (unhide HP).2.2.1 (unhide HP).2.2.2.1 (unhide HP).2.2.2.2)
        have HRUN := hide hrun
        clear hrun
        go_wp2_with fail
        refine (unhide HRUN).mono ?_
        rintro e w1 ⟨⟨rv, rfl, hrd⟩, rfl⟩
        obtain ⟨ra, rc, rfl⟩ := hrd.form
        obtain ⟨k, hk⟩ : ∃ k, ((L.drop fr).take (tu - fr)).length = k := ⟨_, rfl⟩
        have HRD := hide hrd
        rw [hk]
        have HK := hide hk
        have hkl : k ≤ 1048576 := by
          rw [List.length_take, List.length_drop, (unhide HALL).2.2.2.2] at hk
          omega
        clear hrd hk HRUN
        go_wp2_with fail
        go_loopw [99] (fun iv wr => ∃ (i : Nat), i ≤ k ∧ iv = .int .i64 i ∧ Hid (InvW w wr w.heap.size N pf (grpA L s pf (b + 1) 0) (fun f => cnt L f (fr + i)) (fun f => C L s f (8 * (b / 8))))) (fun iv _ => k - (intOf iv).toNat)
        case atStart =>
          refine ⟨0, Nat.zero_le _, rfl, ?_⟩
          have e1 : (fun f => cnt L f (fr + 0)) = fun f => C L s f b := by
            funext f
            rw [C, (unhide HALL).2.2.2.2, (unhide HP).1, (unhide HP).2.2.2.1, Nat.add_zero]
          rw [e1]
          exact unhide HE
        case round =>
        obtain ⟨i, hik, rfl, HF⟩ := hrel
        by_cases hil : i < k
        · obtain ⟨b2, off2, xn, hra, c1, hxn, hLx⟩ := run_cell (unhide HRD) (unhide HK) hil (unhide HF).2.2.2.2.2.1
          subst hra
          obtain ⟨x, hx⟩ : ∃ x, cnt L xn (fr + i) = x := ⟨_, rfl⟩
          obtain ⟨c2, c3⟩ := (unhide HF).beforeCell hxn hx
          have hxl : x ≤ 1048576 := by
            have := cnt_count_le L xn (fr + i)
            have := List.count_le_length (l := L) (a := (xn : Int))
            have := (unhide HALL).2.2.2.2
            omega
          have j1 : ((x : Int) + 1) % 4294967296 = (x : Int) + 1 := by omega
          have HXX := hide (And.intro hLx hx)
          clear hLx hx
          go_wp2_with fail
          go_roundw
          case rel => exact ⟨i + 1, by omega, by go_num, (unhide HF).stepC (unhide HXX).1 (unhide HXX).2⟩
          case measure => simp [intOf]; omega
        · have hie : i = k := by omega
          have HG : Hid (InvW w wr w.heap.size N pf (grpA L s pf (b + 1) 0) (fun f => C L s f (b + 1)) (fun f => C L s f (8 * (b / 8)))) := by
            have e1 : (fun f => cnt L f (fr + i)) = fun f => C L s f (b + 1) := by
              funext f
              have hkl := unhide HK
              have hLl := (unhide HALL).2.2.2.2
              rw [List.length_take, List.length_drop, hLl] at hkl
              rw [C, hLl, (unhide HP).2.2.1, (unhide HP).2.1, (unhide HP).2.2.2.2]
              congr 1
              omega
            rw [← e1]
            exact unhide HF
          go_wp2_with fail
          go_roundw
          case rel =>
            refine ⟨b + 1, _, by omega, by go_num, unhide HG, fun h8 => ?_⟩
            rw [show 8 * ((b + 1) / 8) = 8 * (b / 8) by omega]
          case measure => simp [intOf]; omega
  · have hbe : b = bounds := by omega
    have HB : Hid (InvW w wr w.heap.size N pf (grpB L s pf bounds 0 0) (fun f => C L s f bounds) bg) := by
      subst hbe
      exact (unhide HI).1.toB
    have hpf0 : 0 < pf := by omega
    clear HI hbe HLEN
    go_wp2_with fail
    obtain ⟨wt, rfl⟩ : ∃ wt, wt = wr := ⟨_, rfl⟩
    go_loopw [18, 111] (fun sv fv wr => ∃ (f st : Nat), f ≤ n ∧ fv = .int .i64 f ∧ sv = .int .u32 st ∧ st ≤ 1048576 ∧ Hid (bas L f = st ∧ InvW w wr w.heap.size N pf (grpB L s pf bounds f 0) (fun f => C L s f bounds) bg)) (fun _ fv _ => n - (intOf fv).toNat)
    case atStart => exact ⟨0, 0, Nat.zero_le _, rfl, rfl, by omega, rfl, unhide HB⟩
    case round =>
    obtain ⟨f, st, hfn, rfl, rfl, hst, HD⟩ := hrel
    by_cases hfl : f < n
    · go_wp2_with fail
      obtain ⟨wu, rfl⟩ : ∃ wu, wu = wr := ⟨_, rfl⟩
      go_loopw [115] (fun gv wr => ∃ (g : Nat), g ≤ pf ∧ gv = .int .i64 g ∧ Hid (InvW w wr w.heap.size N pf (grpB L s pf bounds f g) (fun f => C L s f bounds) bg)) (fun gv _ => pf - (intOf gv).toNat)
      case atStart => exact ⟨0, Nat.zero_le _, rfl, (unhide HD).2⟩
      case round =>
      obtain ⟨g, hgp, rfl, HE⟩ := hrel
      by_cases hgl : g < pf
      · obtain ⟨m, hm⟩ : ∃ m, f * pf = m := ⟨_, rfl⟩
        obtain ⟨q, hq⟩ : ∃ q, m + g = q := ⟨_, rfl⟩
        have hqN : q < N := by
          have h1 : (f + 1) * pf ≤ n * pf := Nat.mul_le_mul_right pf hfl
          rw [Nat.add_mul, Nat.one_mul] at h1
          omega
        have m1 : (f : Int) * (pf : Int) = (m : Int) := by rw [← hm]; simp
        have m3 : (m : Int) + (g : Int) = (q : Int) := by omega
        obtain ⟨x, hx⟩ : ∃ x, fst0 L s f g bounds = x := ⟨_, rfl⟩
        have hxl : x ≤ 1048576 := by
          have h1 := C_le L s f (8 * g)
          have := (unhide HALL).2.2.2.2
          rw [← hx, fst0]
          split <;> omega
        obtain ⟨z, hz⟩ : ∃ z, x + st = z := ⟨_, rfl⟩
        have m4 : (x : Int) + (st : Int) = (z : Int) := by omega
        have m5 : (z : Int) % 4294967296 = (z : Int) := by omega
        obtain ⟨c1, c4, c5⟩ := (unhide HE).cellsB hqN hgl (by rw [hm]; exact hq) hx
        have HQ := hide (And.intro hm (And.intro hq (And.intro hx hz)))
        clear hm hq hx hz
        go_wp2_with fail
        go_roundw
        case rel => exact ⟨g + 1, by omega, by go_num, (unhide HE).stepB hqN hgl (unhide HQ) (unhide HD).1⟩
        case measure => simp [intOf]; omega
      · have hge : g = pf := by omega
        obtain ⟨x, hx⟩ : ∃ x, C L s f bounds = x := ⟨_, rfl⟩
        obtain ⟨c2, c3⟩ := (unhide HE).beforeCell (show f < 256 by omega) hx
        have hbs := bas_step HX HALL (unhide HD).1 hx
        obtain ⟨st', hst'⟩ : ∃ t, st + x = t := ⟨_, rfl⟩
        have m4 : (st : Int) + (x : Int) = (st' : Int) := by omega
        have m5 : (st' : Int) % 4294967296 = (st' : Int) := by omega
        rw [hst'] at hbs
        have HBS := hide hbs
        clear hx hst' hbs
        go_wp2_with fail
        go_roundw
        case rel => exact ⟨f + 1, st', by omega, by go_num, rfl, by have := (unhide HBS).2; omega, (unhide HBS).1, (unhide HE).rowB hge hpf0⟩
        case measure => simp [intOf]; omega
    · have hfe : f = n := by omega
      subst hfe
      obtain ⟨c1, c2, c3, c4, c5, c6⟩ := (unhide HD).2.fin
      go_wp2_with fail
      refine bodyPost_ret (v := .agg #[.int .i64 pf, .slice (some ⟨w.heap.size + 1, 0, none⟩) N N]) ?_ rfl ?_
      · exact results_cell_row Try.results22 _ _ w.heap.size 51 #[.int .i64 pf, .slice (some ⟨w.heap.size + 1, 0, none⟩) N N] (0, 0) _ rfl ((unhide HD).2.result _ _) Try.underlying51 rfl Try.size51
      · exact (unhide HD).2.done rfl
end Go.Proofs.Qxb6603163a
