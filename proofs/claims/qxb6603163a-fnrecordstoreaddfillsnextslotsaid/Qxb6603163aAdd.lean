/- (*recordStore).add: what it makes of a record store in memory, whatever order is drawn. -/
import Derived.Test.Qxb6603163aAddB
import Derived.Deep.DeepCutAuto
import Derived.Deep.CutBlock
namespace Go.Proofs.Qxb6603163a
open Go.ChangeShapes Go.WideShapes Go.ChangeAt Go.RowKit

theorem addD_eq {ds D : List (List Int)} {c size m : Nat} {xs d E : List Int} (hcd : c ≤ ds.length) (hD : D = grewD ds c) (hd : D[c]? = some d) (hE : E = d ++ xs) (hm : xs.length + m = size) :
    (D.set c E).set c (E ++ List.replicate m 0) = addD ds c (pad size xs) := by
  subst hD hE
  rw [List.set_set]
  have hm' : m = size - xs.length := by omega
  subst hm'
  unfold grewD at hd ⊢
  unfold addD pad
  by_cases h : c < ds.length
  · rw [if_pos h] at hd ⊢
    rw [if_pos h, hd]
    simp
  · rw [if_neg h] at hd ⊢
    rw [if_neg h]
    have hc : c = ds.length := by omega
    subst hc
    simp at hd
    subst hd
    simp

def AddPost (base S N c size : Nat) (xs : List Int) (ds : List (List Int)) (w : World) (e : Ending) (w' : World) : Prop :=
  e = .returned (.int .u32 N) ∧ (∃ cv, Sto w' base S size ((N + 1 : Nat) : Int) cv (addD ds c (pad size xs))) ∧ Below base w w'

set_option maxRecDepth 100000 in
set_option maxHeartbeats 4000000 in
theorem add_any (base S N c size : Nat) (cv rv : Value) (xs : List Int) (ds : List (List Int)) (w : World) (h : Sto w base S size N cv ds) (hr : ∀ w', Below base w w' → Rd w' rv xs)
    (hN : N < 1000000000) (hc : c = N / 4096) (hcd : c ≤ ds.length) (hsz : size ≤ 1024) (hx : xs.length ≤ size) (hroom : ∀ d, ds[c]? = some d → d.length + size ≤ 4096 * size) :
    Calls Try.prog 21 #[.pointer (some ⟨S, 0, none⟩), rv] w fun e w' => AddPost base S N c size xs ds w e w' := by
  obtain ⟨hc0, hc1, hc2, hfz, hS⟩ := h.cells
  have hcq : (N : Int) / 4096 = (c : Int) := by omega
  have hc18 : c < 1000000 := by omega
  obtain ⟨_, ra, rc, hrv, _⟩ := hr w (Below.refl _ _)
  subst hrv
  have HROOM := hide hroom
  have HR := hide hr
  have HSTO := hide h
  have hbS := h.hb
  clear hc hroom hr h
  go_enter Try.func21, Try.ntmps21
  go_upto_block 0 with fail
  go_cut [] (fun w1 => ∃ (g cap : Nat) (D : List (List Int)) (d : List Int), Hid (D = grewD ds c ∧ D[c]? = some d ∧ d.length + size ≤ 4096 * size ∧ Sto w1 base S size N (.slice (some ⟨g, 0, none⟩) D.length cap) D ∧ Below base w w1))
  case first =>
    have hform := (unhide HSTO).st.mt
    obtain ⟨_, cva, ccap, _, hcv, _⟩ := hform
    subst hcv
    obtain ⟨hs, e1, e2, e3, e4⟩ := (unhide HSTO).st
    have hbase : base ≤ w.heap.size := by omega
    obtain ⟨len, hlen⟩ : ∃ len, ds.length = len := ⟨_, rfl⟩
    rw [hlen] at hc2 hcd
    have HALL : Hid (Sto w base S size N (.slice cva len ccap) ds ∧ hs.length = ds.length ∧ w.ownsRow base 27 1 (.slice cva len ccap) hs.length hs ∧ (∀ (j : Nat) (h : Value) (d : List Int), hs[j]? = some h → ds[j]? = some d → Own w base h d) ∧ Apart hs) := by
      rw [← hlen]
      exact ⟨unhide HSTO, e1, e2, e3, e4⟩
    have e1' : hs.length = len := e1.trans hlen
    have HLEN := hide hlen
    clear e2 e3 e4 e1 hlen HSTO
    by_cases hcl : c < len
    · obtain ⟨d, hd⟩ : ∃ d, ds[c]? = some d := ⟨ds[c]'(by rw [unhide HLEN]; exact hcl), List.getElem?_eq_getElem _⟩
      have hgx : ∃ g cap', Value.slice cva len ccap = .slice (some ⟨g, 0, none⟩) len cap' := by
        obtain ⟨g, cap', _, _, ecv, _⟩ := (unhide HALL).1.at c (by rw [unhide HLEN]; exact hcl)
        rw [unhide HLEN] at ecv
        exact ⟨g, cap', ecv⟩
      obtain ⟨g, cap', ecv⟩ := hgx
      cases ecv
      have hstoL : Sto w base S size N (.slice (some ⟨g, 0, none⟩) ds.length ccap) ds := by rw [unhide HLEN]; exact (unhide HALL).1
      obtain ⟨_, ao, cp, q1, q2, q3, q4, q5, q6, q7, q8⟩ := hstoL.at' hd
      have hdl := unhide HROOM d hd
      have hdcp : d.length ≤ cp := by
        obtain ⟨_, _, _, hv, hle, _⟩ := q6.rd
        simp only [Value.slice.injEq] at hv
        omega
      have hcne : ((c : Int) == (len : Int)) = false := by rw [beq_eq_false_iff_ne]; omega
      have hlne : ((len : Int) == 0) = false := by rw [beq_eq_false_iff_ne]; omega
      have HOWN := hide q6
      have HD := hide hd
      have HDL := hide hdl
      have hd22 : d.length ≤ 4194304 := by omega
      have hd23 : d.length ≤ 4096 * size := by omega
      clear q6 hd hstoL hdl e1'
      go_upto_region 3 with fail
      go_cut [6, 15] (fun i b w1 => i = .int .i64 c ∧ b = .bool false ∧ w = w1)
      case first =>
        go_wp2_with fail
        all_goals go_meet
        all_goals exact ⟨by go_num, rfl, rfl⟩
      case rest =>
      obtain ⟨rfl, rfl, rfl⟩ := hcut
      go_upto_region 7 with fail
      refine reg7 (hide (unhide HALL).1) hc0 hc2 q4 hcl hsz hd22 ?_
      intro _ _ _ _ _ _ _ _ _ _ _ _ _ _ _ _ _ _ _ _ _ _ wc HW
      obtain ⟨hstoc, hbelc, hheap⟩ := unhide HW
      have hblk : ∀ k : Nat, wc.heap[k]? = w.heap[k]? := fun k => by rw [hheap]
      have r0 : wc.cell? ⟨S, 0, none⟩ = some (.int .i64 size) := (World.cell?_of_block (hblk S)).trans hc0
      have r2 : wc.cell? ⟨S, 2, none⟩ = some (.slice (some ⟨g, 0, none⟩) len ccap) := (World.cell?_of_block (hblk S)).trans hc2
      have r4 : wc.cell? ⟨g, c, none⟩ = some (.slice ao d.length cp) := (World.cell?_of_block (hblk g)).trans q4
      have r5 : wc.frozen? ⟨g, c, none⟩ = false := (World.frozen?_of_block (hblk g)).trans q5
      have hszc : wc.heap.size = w.heap.size := by rw [hheap]
      have hgc : g < wc.heap.size := by omega
      have hSc : S < wc.heap.size := by omega
      have hbasec : base ≤ wc.heap.size := by omega
      have hownc := (unhide HOWN).keep (fun k _ => hblk k)
      have HSTOC := hide hstoc
      have HBELC := hide hbelc
      have HOWNC := hide hownc
      clear hheap hblk hstoc hbelc hownc HW hc0 hc1 hc2 hfz q4 q5 hszc HOWN
      by_cases hgt : (cp : Int) < (d.length : Int) + (size : Int)
      · obtain ⟨K, hK⟩ : ∃ K, K = min (2 * cp) (4096 * size) := ⟨_, rfl⟩
        have hK1 : d.length ≤ K := by omega
        have hK5 : K ≤ 1000000000 := by omega
        have hcp8 : cp ≤ 8388608 := by omega
        obtain ⟨w2, hcp, H2⟩ := copy_chunk wc base K cp ao d (unhide HOWNC) hbasec hK1 hK5
        have t2 : w2.cell? ⟨S, 2, none⟩ = some (.slice (some ⟨g, 0, none⟩) len ccap) := ((unhide H2).2.cell_far ⟨S, 2, none⟩ hSc (by simp)).trans r2
        have t4 : w2.cell? ⟨g, c, none⟩ = some (.slice ao d.length cp) := ((unhide H2).2.cell_far ⟨g, c, none⟩ hgc (by simp)).trans r4
        have t5 : w2.frozen? ⟨g, c, none⟩ = false := ((unhide H2).2.frozen_far ⟨g, c, none⟩ hgc (by simp)).trans r5
        go_upto_region 8 with fail
        refine reg8 r0 r2 r4 hcl hsz hcp8 hK hK1 ?_
        intro _ _ _ _ _ _ _ _ _ _ _ _ _ _ _ _ _ _ _ _ _ _ _ _ w3 hw3
        subst hw3
        clear hK
        go_wp2_with fail
        go_meet
        exact regrown1 HSTOC HLEN HD HDL hcl q1 r4 hbasec HBELC H2
      · have hgf : decide ((cp : Int) < (d.length : Int) + (size : Int)) = false := by simpa using hgt
        go_wp2_with fail
        go_meet
        have hgD : ds = grewD ds c := by unfold grewD; rw [unhide HLEN, if_pos hcl]
        exact ⟨g, ccap, ds, d, hgD, unhide HD, unhide HDL, by rw [unhide HLEN]; exact unhide HSTOC, unhide HBELC⟩
    · have hceq : c = len := by omega
      have HH := hide hceq
      have hlb : hs.length < 1000000 := by omega
      by_cases hc00 : c = 0
      · have hl0 : ((len : Int) == 0) = true := by rw [beq_iff_eq]; omega
        have hc0' : ((c : Int) == 0) = true := by rw [beq_iff_eq]; omega
        clear hceq hc00 hcl e1'
        go_upto_region 4 with fail
        refine reg4 HALL HLEN HH hlb hsz ?_
        intro _ _ _ _ _ _ _ _ _ _ _ _ _ _ _ w2 hw2
        go_wp2_with fail
        go_meet
        exact hw2
      · have hl0 : ((c : Int) == (len : Int)) = true := by rw [beq_iff_eq]; omega
        have hc0' : ((c : Int) == 0) = false := by rw [beq_eq_false_iff_ne]; omega
        clear hceq hc00 hcl e1'
        go_upto_region 6 with fail
        refine reg6 HALL HLEN HH hlb hsz ?_
        intro _ _ _ _ _ _ _ _ _ _ _ _ _ _ _ w2 hw2
        go_wp2_with fail
        go_meet
        exact hw2
  case rest =>
    obtain ⟨g, cap, D, d, HW⟩ := hcut
    obtain ⟨_, hDd, hdl, hsto, hbel⟩ := unhide HW
    obtain ⟨len, hlen⟩ : ∃ len, D.length = len := ⟨_, rfl⟩
    have hlt := (List.getElem?_eq_some_iff.1 hDd).1
    have hd22 : d.length ≤ 4194304 := by omega
    go_upto_region 11 with fail
    refine reg11 (hide hsto) (hide hlen) hDd (unhide HR _ hbel) hbel hsz hx hd22 ?_
    intro _ _ _ _ _ _ _ _ _ _ _ _ _ _ _ w2 hw2
    obtain ⟨hsto2, hbel2⟩ := unhide hw2
    obtain ⟨E, hE⟩ : ∃ E, E = d ++ xs := ⟨_, rfl⟩
    rw [← hE] at hsto2
    obtain ⟨D2, hD2⟩ : ∃ D2, D2 = D.set c E := ⟨_, rfl⟩
    have hl2 : D2.length = len := by rw [hD2]; simpa using hlen
    have hd2 : D2[c]? = some E := by rw [hD2, List.getElem?_set]; simp [hlt]
    rw [← hD2, ← hl2] at hsto2
    obtain ⟨m, hm⟩ : ∃ m, xs.length + m = size := ⟨size - xs.length, by omega⟩
    have hEl : E.length + size ≤ 1000000000 := by rw [hE]; simp; omega
    go_upto_region 12 with fail
    refine reg12 (hide hsto2) (hide hl2) hd2 hbel2 hsz hm hEl ?_
    intro _ _ _ _ _ _ _ _ _ _ _ _ _ _ _ _ _ _ _ _ _ w3 hw3
    obtain ⟨hsto3, hbel3⟩ := unhide hw3
    obtain ⟨_, y1, _, y3, _⟩ := hsto3.cells
    have HSTO4 := hide hsto3
    have HBEL4 := hide hbel3
    have e := addD_eq hcd (unhide HW).1 (unhide HW).2.1 hE hm
    rw [← hD2] at e
    have HE := hide e
    clear hsto3 hbel3 e hd2 hD2 hE hm hsto2 hbel2 hl2 hDd hsto hbel hlen hc0 hc1 hc2 hw3 hw2
    go_wp2
    go_ret
    refine ⟨rfl, ?_, ?_⟩
    · rw [← unhide HE]
      exact ⟨_, (unhide HSTO4).len⟩
    · exact (unhide HBEL4).setCell hbS _

end Go.Proofs.Qxb6603163a
