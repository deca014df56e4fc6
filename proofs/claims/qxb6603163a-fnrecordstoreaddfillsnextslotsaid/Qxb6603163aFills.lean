/- FnRecordStoreAddFillsNextSlot: the walk. -/
import Derived.Test.Qxb6603163aZadd
import Derived.Test.Qxb6603163aZz
import Derived.Test.Qxb6603163aOpen
import Derived.BigQuiet
import Derived.Deep.QuietTactic
import Derived.Laws.BitsAllLaws
import Derived.Deep.DeepCutAuto
import Derived.Deep.CutBlock
namespace Go.Proofs.Qxb6603163a
open Go.ChangeShapes Go.WideShapes Go.ChangeAt Go.RowKit

/-- A slice cut at its end. -/
theorem Rd.take {w : World} {a : Option Addr} {n c : Nat} {xs ys : List Int} (h : Rd w (.slice a n c) (xs ++ ys)) : Rd w (.slice a xs.length c) xs := by
  obtain ⟨h0, a', c', e, h1, h2, h3⟩ := h
  simp only [Value.slice.injEq] at e
  obtain ⟨rfl, _, rfl⟩ := e
  refine ⟨fun z hz => h0 z (List.mem_append_left _ hz), a, c, rfl, by simp at h1; omega, h2, fun ad had j u hu => h3 ad had j u ?_⟩
  rw [bcs_append, List.getElem?_append_left (List.getElem?_eq_some_iff.1 hu).1]
  exact hu

theorem Rd.drewN {w : World} {v : Value} {xs : List Int} (h : Rd w v xs) (q : Nat) : Rd (w.drewN q) v xs := h.keep (fun _ _ => rfl)

def SamePost (w : World) (e : Ending) (w' : World) : Prop := e = .returned (.bool true) ∧ ∃ n, w' = w.drewN n

set_option maxHeartbeats 400000 in
theorem same_any (u v : Value) (xs : List Int) (w : World) (hu : Rd w u xs) (hv : Rd w v xs) (hl : xs.length ≤ 1000000000) :
    Calls Try.prog 13 #[u, v] w fun e w' => SamePost w e w' := by
  obtain ⟨ua, uc, rfl⟩ := hu.form
  obtain ⟨va, vc, rfl⟩ := hv.form
  have HU := hide hu
  have HV := hide hv
  obtain ⟨n, hn⟩ : ∃ n, xs.length = n := ⟨_, rfl⟩
  rw [hn] at hl
  clear hu hv
  rw [hn]
  have HN := hide hn
  clear hn
  go_enter Try.func13, Try.ntmps13
  go_wp2
  go_loopw [5] (fun i wr => ∃ (k q : Nat), k ≤ n ∧ i = .int .i64 k ∧ wr = w.drewN q) (fun i _ => n - (intOf i).toNat)
  case atStart => exact ⟨0, 0, Nat.zero_le _, rfl, rfl⟩
  case round =>
    obtain ⟨k, q, hk, rfl, rfl⟩ := hrel
    by_cases hlt : k < n
    · obtain ⟨b1, o1, e1, c1⟩ := (unhide HU).cells (by rw [unhide HN]; omega)
      obtain ⟨b2, o2, e2, c2⟩ := (unhide HV).cells (by rw [unhide HN]; omega)
      have c1k := c1 k (by rw [unhide HN]; omega)
      have c2k := c2 k (by rw [unhide HN]; omega)
      cases e1
      cases e2
      obtain ⟨x, hx⟩ : ∃ x, xs.getD k 0 = x := ⟨_, rfl⟩
      rw [hx] at c1k c2k
      have hk0 : (0 : Int) ≤ (k : Int) := by omega
      have hk1 : (k : Int) < (n : Int) := by omega
      clear c1 c2 hx
      go_wp2_with fail
      go_quiet (fail)
      go_wp2
      go_roundw
      case rel => exact ⟨k + 1, q + nq, by omega, by go_num, rfl⟩
      case measure => simp [intOf]; omega
    · go_wp2
      go_ret
      exact ⟨rfl, q, rfl⟩

theorem and_4095 (N : Nat) (h : N < 4294967296) : bits BinOp.and IntKind.u32 (N : Int) 4095 = ((N % 4096 : Nat) : Int) := by
  have := u32_and_nat N 4095 h (by omega)
  rw [show ((4095 : Nat) : Int) = 4095 from rfl] at this
  rw [this]
  congr 1
  exact Nat.and_two_pow_sub_one_eq_mod N 12

theorem addD_ne (ds : List (List Int)) (c k : Nat) (p : List Int) (hk : k < ds.length) (hne : k ≠ c) : (addD ds c p)[k]? = ds[k]? := by
  unfold addD
  split
  · rw [List.getElem?_set, if_neg (by omega)]
  · rw [List.getElem?_append_left hk]
theorem addD_at (ds : List (List Int)) (c : Nat) (p : List Int) (hc : c ≤ ds.length) : (addD ds c p)[c]? = some (ds[c]?.getD [] ++ p) := by
  unfold addD
  split
  · rename_i h
    rw [List.getElem?_set, if_pos rfl, if_pos h]
  · have : c = ds.length := by omega
    subst this
    simp

/-- The length that a chunk of a valid store has. -/
def wantLen (c sz R q : Nat) : Nat := if q < c then 4096 * sz else if q = c then R else 0

set_option maxRecDepth 100000 in
set_option maxHeartbeats 4000000 in
theorem fills_walk (a0 : Int) (w0 : (Lit.int .i64 a0).wf = true) (a1 : Int) (w1 : (Lit.int .u32 a1).wf = true) (v : Value) (ds : List (List Int)) (rv : Value) (xs : List Int) (w : World) (hm : Mt w v ds) (hr : Rd w rv xs) :
    Calls Try.prog 4 #[.int .i64 a0, .int .u32 a1, v, rv] w fun e w' => LawPost w e w' := by
  have hb0 := bounds_i64 w0
  have hb1 := bounds_u32 w1
  obtain ⟨N, rfl⟩ : ∃ N : Nat, a1 = N := ⟨a1.toNat, by omega⟩
  have hz := zzFills v ds a0 N rv xs w hm hr
  obtain ⟨va, vc, hv⟩ := hm.form
  subst hv
  obtain ⟨ra, rc, hrv⟩ := hr.form
  subst hrv
  have HM := hide hm
  have HR := hide hr
  have HZ := hide hz
  clear hm hz w0 w1 hr
  by_cases hn1 : 65536 < (ds.length : Int)
  · go_enter Try.func4, Try.ntmps4
    go_wp2_with (go_at_call 9; refine (unhide HZ).mono ?_; rintro e w ⟨hz, rfl⟩; rcases hz with ⟨rfl, hsized⟩ | rfl)
    all_goals go_ret
    all_goals exact ⟨rfl, Below.refl _ _⟩
  have hg1 : decide (65536 < (ds.length : Int)) = false := by simpa using hn1
  obtain ⟨xl, hxl⟩ : ∃ xl, xs.length = xl := ⟨_, rfl⟩
  rw [hxl] at HZ
  rw [hxl]
  have HXL := hide hxl
  clear hxl
  by_cases hx1 : 1048576 < (xl : Int)
  · go_enter Try.func4, Try.ntmps4
    go_wp2_with (go_at_call 9; refine (unhide HZ).mono ?_; rintro e w ⟨hz, rfl⟩; rcases hz with ⟨rfl, hsized⟩ | rfl)
    all_goals go_ret
    all_goals exact ⟨rfl, Below.refl _ _⟩
  by_cases hx2 : 1048576 < 24 * (ds.length : Int) + (xl : Int)
  · go_enter Try.func4, Try.ntmps4
    go_wp2_with (go_at_call 9; refine (unhide HZ).mono ?_; rintro e w ⟨hz, rfl⟩; rcases hz with ⟨rfl, hsized⟩ | rfl)
    all_goals go_ret
    all_goals exact ⟨rfl, Below.refl _ _⟩
  go_enter Try.func4, Try.ntmps4
  go_wp2_with (go_at_call 9; refine (unhide HZ).mono ?_; rintro e w ⟨hz, rfl⟩; rcases hz with ⟨rfl, hsized⟩ | rfl)
  rotate_left
  · go_ret
    exact ⟨rfl, Below.refl _ _⟩
  have HS := hide hsized.1
  clear hsized HZ
  go_loop [9, 10] (fun z i => ∃ (k : Nat) (t : Int), k ≤ ds.length ∧ i = .int .i64 k ∧ z = .int .i64 t ∧ 0 ≤ t ∧ t ≤ 1048576) (fun _ i => ds.length - (intOf i).toNat)
  case atStart => exact ⟨0, _, Nat.zero_le _, rfl, rfl, by omega, by omega⟩
  case round =>
  obtain ⟨k, t, hk, rfl, rfl, ht0, ht1⟩ := hrel
  by_cases hlt : k < ds.length
  · obtain ⟨b, off, ao, l, cp, hsome, hcell, hl, _, _⟩ := (unhide HM).row k hlt
    cases hsome
    have hl2 : l ≤ 1048576 := by have := (unhide HS).2 ds[k] (List.getElem_mem hlt); omega
    clear hl
    go_wp2
    · go_ret
      exact ⟨rfl, Below.refl _ _⟩
    · go_round
      case rel => exact ⟨k + 1, t + l, by omega, by go_num, by go_num, by omega, by omega⟩
      case measure => simp [intOf]; omega
  by_cases hs1 : a0 < 0
  · go_wp2
    go_ret
    exact ⟨rfl, Below.refl _ _⟩
  have hs1' : decide (a0 < 0) = false := by simpa using hs1
  by_cases hs2 : 1024 < a0
  · go_wp2
    go_ret
    exact ⟨rfl, Below.refl _ _⟩
  obtain ⟨sz, rfl⟩ : ∃ sz : Nat, a0 = sz := ⟨a0.toNat, by omega⟩
  have hsz : sz ≤ 1024 := by omega
  by_cases hs3 : (sz : Int) < (xl : Int)
  · go_wp2
    go_ret
    exact ⟨rfl, Below.refl _ _⟩
  obtain ⟨c, hc⟩ : ∃ c, N / 4096 = c := ⟨_, rfl⟩
  have hcq : (N : Int) / 4096 = (c : Int) := by omega
  obtain ⟨rem, hrem⟩ : ∃ rem, N % 4096 = rem := ⟨_, rfl⟩
  have hand : bits BinOp.and IntKind.u32 (N : Int) 4095 = (rem : Int) := by rw [← hrem]; exact and_4095 N (by omega)
  have hrem2 : rem < 4096 := by omega
  have HNC : Hid (N / 4096 = c ∧ N % 4096 = rem) := ⟨hc, hrem⟩
  have hNc : N < 4096 * (c + 1) := by omega
  clear hc hrem
  go_upto_region 20 with fail
  by_cases hs4 : (ds.length : Int) < (c : Int)
  · go_wp2
    go_ret
    exact ⟨rfl, Below.refl _ _⟩
  have hs4' : decide ((ds.length : Int) < (c : Int)) = false := by simpa using hs4
  by_cases hs5 : ds.length = c ∧ rem ≠ 0
  · have h1 : ((ds.length : Int) == (c : Int)) = true := by rw [beq_iff_eq]; omega
    have h2 : ((rem : Int) != 0) = true := by rw [bne_iff_ne]; omega
    go_wp2
    go_ret
    exact ⟨rfl, Below.refl _ _⟩
  have HS5 : Hid (ds.length = c → rem = 0) := fun h => by
    by_cases h0 : rem = 0
    · exact h0
    · exact absurd ⟨h, h0⟩ hs5
  clear hs5
  go_cut [12, 97] (fun r b w1 => r = .int .i64 rem ∧ b = .bool false ∧ w = w1)
  case first =>
    by_cases h3 : ds.length = c
    · have h1 : ((ds.length : Int) == (c : Int)) = true := by rw [beq_iff_eq]; omega
      have h2 : ((rem : Int) != 0) = false := by rw [unhide HS5 h3]; rfl
      clear h3
      go_wp2_with fail
      go_meet
      exact ⟨by go_num, rfl, rfl⟩
    · have h1 : ((ds.length : Int) == (c : Int)) = false := by rw [beq_eq_false_iff_ne]; omega
      clear h3
      go_wp2_with fail
      go_meet
      exact ⟨by go_num, rfl, rfl⟩
  case rest =>
  obtain ⟨rfl, rfl, rfl⟩ := hcut
  obtain ⟨R, hR⟩ : ∃ R : Nat, rem * sz = R := ⟨_, rfl⟩
  have hR2 : (rem : Int) * (sz : Int) = (R : Int) := by rw [← hR]; simp
  have hR3 : R ≤ 4096 * 1024 := by rw [← hR]; exact Nat.mul_le_mul (by omega) hsz
  have HRR := hide hR
  clear hR hs4'
  go_wp2_with fail
  go_loop [13, 14] (fun i _ => ∃ (j : Nat), j ≤ ds.length ∧ i = .int .i64 j ∧ Hid (∀ (q : Nat) (d : List Int), q < j → ds[q]? = some d → d.length = wantLen c sz R q)) (fun i _ => ds.length - (intOf i).toNat)
  case atStart => exact ⟨0, Nat.zero_le _, rfl, fun q d hq => by omega⟩
  case round =>
  obtain ⟨j, hj, rfl, HB⟩ := hrel
  by_cases hjlt : j < ds.length
  · obtain ⟨b, off, ao, l, cp, hsome, hcell, hl, _, _⟩ := (unhide HM).row j hjlt
    cases hsome
    have hl2 : l ≤ 1048576 := by have := (unhide HS).2 ds[j] (List.getElem_mem hjlt); omega
    have HL := hide hl
    clear hl
    have fin : l = wantLen c sz R j → Hid (∀ (q : Nat) (d : List Int), q < j + 1 → ds[q]? = some d → d.length = wantLen c sz R q) := fun h q d hq hd => by
      by_cases hqj : q = j
      · subst hqj
        rw [List.getElem?_eq_getElem hjlt] at hd
        cases hd
        rw [← unhide HL]
        exact h
      · exact unhide HB q d (by omega) hd
    have FIN := hide fin
    clear fin
    by_cases hjc : (j : Int) < (c : Int)
    · by_cases hw : (l : Int) = 4096 * (sz : Int)
      · have ha : (l : Int) ≤ 4096 * (sz : Int) := by omega
        have hb : 4096 * (sz : Int) ≤ (l : Int) := by omega
        clear hw
        go_wp2
        go_round
        case rel => exact ⟨j + 1, by omega, by go_num, unhide FIN (by unfold wantLen; rw [if_pos (by omega)]; omega)⟩
        case measure => simp [intOf]; omega
      · have ha : ((l : Int) != 4096 * (sz : Int)) = true := by rw [bne_iff_ne]; exact hw
        clear hw
        go_wp2
        go_ret
        exact ⟨rfl, Below.refl _ _⟩
    · by_cases hjc2 : (j : Int) = (c : Int)
      · have hbq : ((j : Int) == (c : Int)) = true := by rw [beq_iff_eq]; exact hjc2
        have HJC := hide hjc2
        clear hjc2
        by_cases hw : (l : Int) = (R : Int)
        · have ha : (l : Int) ≤ (R : Int) := by omega
          have hb : (R : Int) ≤ (l : Int) := by omega
          clear hw
          go_wp2
          go_round
          case rel => exact ⟨j + 1, by omega, by go_num, unhide FIN (by have := unhide HJC; unfold wantLen; rw [if_neg (by omega), if_pos (by omega)]; omega)⟩
          case measure => simp [intOf]; omega
        · have ha : ((l : Int) != (R : Int)) = true := by rw [bne_iff_ne]; exact hw
          clear hw
          go_wp2
          go_ret
          exact ⟨rfl, Below.refl _ _⟩
      · have hbq : ((j : Int) == (c : Int)) = false := by rw [beq_eq_false_iff_ne]; exact hjc2
        by_cases hw : (l : Int) = 0
        · have ha : (l : Int) ≤ 0 := by omega
          clear hw
          go_wp2
          go_round
          case rel => exact ⟨j + 1, by omega, by go_num, unhide FIN (by unfold wantLen; rw [if_neg (by omega), if_neg (by omega)]; omega)⟩
          case measure => simp [intOf]; omega
        · have ha : ((l : Int) != 0) = true := by rw [bne_iff_ne]; exact hw
          clear hw
          go_wp2
          go_ret
          exact ⟨rfl, Below.refl _ _⟩
  have HW : Hid (∀ (q : Nat) (d : List Int), ds[q]? = some d → d.length = wantLen c sz R q) := fun q d hd => unhide HB q d (by have := (List.getElem?_eq_some_iff.1 hd).1; omega) hd
  clear HB hR2 hand
  go_wp2_with fail
  refine (cloneBytes_any _ xs _ (by rw [← unhide HXL]; exact unhide HR) (by rw [unhide HXL]; omega)).mono ?_
  rintro e w1 ⟨rao1, rcap1, rfl, hrown, hbel1⟩
  rw [unhide HXL] at hrown ⊢
  have hm1 := (unhide HM).below hbel1
  go_wp2_with fail
  refine (cloneChunks_any _ ds _ hm1 (unhide HS).1 (unhide HS).2).mono ?_
  rintro e w2 ⟨cao2, ccap2, rfl, hst2, hbel2⟩
  go_wp2_with fail
  refine (cloneChunks_any _ ds _ hst2.mt (unhide HS).1 (unhide HS).2).mono ?_
  rintro e w3 ⟨cao3, ccap3, rfl, hst3, hbel3⟩
  have hsz12 := hbel1.size
  have hsz23 := hbel2.size
  have hbel13 : Below w1.heap.size w1 w3 := hbel2.trans (hbel3.mono hsz23)
  have hcc : c ≤ ds.length := by omega
  have hroom : ∀ d, ds[c]? = some d → d.length + sz ≤ 4096 * sz := fun d hd => by
    have h1 := unhide HW c d hd
    unfold wantLen at h1
    rw [if_neg (by omega), if_pos rfl, ← unhide HRR] at h1
    have := Nat.mul_le_mul_right sz (show rem + 1 ≤ 4096 by omega)
    rw [Nat.succ_mul] at this
    omega
  have hcall := zadd_any w2.heap.size N c sz (.slice cao3 ds.length ccap3) (.slice rao1 xl rcap1) xs ds w3 hst3
    (fun w' hb' => hrown.rd.below (hbel13.trans (hb'.mono hsz23))) hbel3.size (by omega) (unhide HNC).1.symm hcc hsz (by rw [unhide HXL]; omega) hroom
  go_wp2_with fail
  refine hcall.mono ?_
  rintro e w4 ⟨ao4, cap4, len4, rfl, hl4, hst4, hbel4⟩
  have HMO : Hid (Mt w4 (.slice ao4 len4 cap4) (addD ds c (pad sz xs))) := hst4.mt
  have HMC : Hid (Mt w4 (.slice cao2 ds.length ccap2) ds) := hst2.mt.below (hbel3.trans hbel4)
  have HRD : Hid (Rd w4 (.slice rao1 xl rcap1) xs) := hrown.rd.below (hbel13.trans (hbel4.mono hsz23))
  have HBF : Hid (Below w.heap.size w w4) := hbel1.trans ((hbel13.mono hsz12).trans (hbel4.mono (by omega)))
  have HL4 := hide hl4
  have hN9 : N < 1000000000 := by omega
  have hlen4 : len4 = if c < ds.length then ds.length else ds.length + 1 := by
    have := unhide hl4
    rw [this]
    unfold addD
    split <;> simp
  clear hst4 hst3 hst2 hbel4 hbel3 hbel2 hbel1 hbel13 hroom hcall hm1 hrown hl4 hsz12 hsz23 HM HR HNC HS5
  have hn1' : (ds.length : Int) ≤ 65536 := by omega
  have hl5 : len4 ≤ ds.length + 1 := by rw [hlen4]; split <;> omega
  have HL6 : Hid (ds.length < len4 → c = ds.length) := fun h => by
    rw [hlen4] at h
    split at h <;> omega
  have hla : if c < ds.length then len4 = ds.length else len4 = ds.length + 1 := by split <;> simp_all
  have HLA := hide hla
  clear hlen4 hla
  by_cases hnew : c < ds.length
  · have hla := unhide HLA
    rw [if_pos hnew] at hla
    have hb4 : ((c : Int) == (ds.length : Int)) = false := by rw [beq_eq_false_iff_ne]; omega
    have hl4a : (len4 : Int) ≤ (ds.length : Int) := by omega
    have hl4b : (ds.length : Int) ≤ (len4 : Int) := by omega
    have hl4c : ((len4 : Int) != (ds.length : Int)) = false := by rw [bne_eq_false_iff_eq]; omega
    clear hla
    go_wp2_with fail
    go_loopw [21, 22, 23, 24] (fun i _ _ _ wr => ∃ (k q : Nat), k ≤ len4 ∧ i = .int .i64 k ∧ wr = w4.drewN q) (fun i _ _ _ _ => len4 - (intOf i).toNat)
    case atStart => exact ⟨0, 0, Nat.zero_le _, rfl, rfl⟩
    case round =>
    obtain ⟨k7, q7, hk7, rfl, rfl⟩ := hrel
    by_cases hlt7 : k7 < len4
    · obtain ⟨ob, ooff, oao, ol, ocp, hsome, hocell, hol, hord, _⟩ := (unhide HMO).row k7 (by rw [← unhide HL4]; exact hlt7)
      cases hsome
      by_cases hkc : k7 = c
      · have hoc : (addD ds c (pad sz xs))[k7]? = some (ds[k7]?.getD [] ++ pad sz xs) := by rw [hkc]; exact addD_at ds c (pad sz xs) hcc
        rw [List.getElem?_eq_getElem (by rw [← unhide HL4]; exact hlt7)] at hoc
        rw [Option.some.inj hoc] at hol hord
        obtain ⟨old, hold⟩ : ∃ old, ds[k7]?.getD [] = old := ⟨_, rfl⟩
        rw [hold] at hol hord
        have hpl : (pad sz xs).length = sz := pad_length sz xs (by rw [unhide HXL]; omega)
        have hol2 : ol = old.length + sz := by rw [hol, List.length_append, hpl]
        have holb : old.length ≤ 1048576 := by
          rw [← hold]
          by_cases h : k7 < ds.length
          · rw [List.getElem?_eq_getElem h]
            exact (unhide HS).2 ds[k7] (List.getElem_mem h)
          · rw [List.getElem?_eq_none (by omega)]
            exact Nat.zero_le _
        have hne : ((k7 : Int) != (c : Int)) = false := by rw [bne_eq_false_iff_eq]; omega
        obtain ⟨ocap, hocap⟩ : ∃ z : Nat, z = ocp := ⟨_, rfl⟩
        have hocl : ol ≤ ocp := by
          obtain ⟨_, _, _, hv, hle, _⟩ := hord
          simp only [Value.slice.injEq] at hv
          omega
        have HORD := hide hord
        have HOL := hide hol2
        have hol3 : (ol : Int) ≤ (old.length : Int) + (sz : Int) := by omega
        have hol4 : (old.length : Int) + (sz : Int) ≤ (ol : Int) := by omega
        have HKC := hide hkc
        have HOLD := hide hold
        clear hol hord hoc hold hkc hol2 hocap
        by_cases hkn : k7 < ds.length
        · obtain ⟨xb, xoff, xao, xl2, xcp, hsome2, hxcell, hxl2, hxrd, _⟩ := (unhide HMC).row k7 hkn
          cases hsome2
          have hde : ds[k7] = old := by rw [← unhide HOLD, List.getElem?_eq_getElem hkn]; rfl
          rw [hde] at hxl2 hxrd
          subst hxl2
          have HX := hide hxrd
          clear hxrd hde
          have hcall := same_any (.slice oao old.length ocp) (.slice xao old.length xcp) old (w4.drewN q7) (((unhide HORD).take).drewN _) ((unhide HX).drewN _) (by omega)
          have hlo : (0 : Int) ≤ (old.length : Int) := by omega
          have hhi : (old.length : Int) ≤ (ocp : Int) := by omega
          go_wp2_with fail
          refine hcall.mono ?_
          rintro e w5 ⟨rfl, n5, rfl⟩
          clear hcall
          go_wp2_with fail
          have HPAD : Hid (∀ t, t < sz → (old ++ pad sz xs).getD (old.length + t) 0 = if t < xl then xs.getD t 0 else 0) := fun t ht => by
            have := pad_get sz xs t ht
            rw [List.getD_eq_getElem?_getD, List.getElem?_append_right (by omega), show old.length + t - old.length = t by omega, this, unhide HXL]
            rfl
          go_loopw [23, 24] (fun t _ wr => ∃ (q z : Nat), q ≤ sz ∧ t = .int .i64 q ∧ wr = w4.drewN z) (fun t _ _ => sz - (intOf t).toNat)
          case atStart => exact ⟨0, q7 + n5, Nat.zero_le _, rfl, rfl⟩
          case round =>
          obtain ⟨q, z, hq, rfl, rfl⟩ := hrel
          by_cases hqlt : q < sz
          · obtain ⟨ob2, ooff2, hcs, hcells⟩ := (unhide HORD).cells (by simp; have := pad_length sz xs (by rw [unhide HXL]; omega); omega)
            cases hcs
            have hval := unhide HPAD q hqlt
            have hcx := hcells (old.length + q) (by rw [List.length_append, pad_length sz xs (by rw [unhide HXL]; omega)]; omega)
            rw [hval] at hcx
            by_cases hql : q < xl
            · obtain ⟨rb2, roff2, hrs, hrcells⟩ := (unhide HRD).cells (by rw [unhide HXL]; omega)
              cases hrs
              have hrx := hrcells q (by rw [unhide HXL]; omega)
              rw [if_pos hql] at hcx
              obtain ⟨x, hx⟩ : ∃ x, xs.getD q 0 = x := ⟨_, rfl⟩
              rw [hx] at hcx hrx
              clear hval hcells hrcells hx
              go_wp2_with fail
              go_roundw
              case rel => exact ⟨q + 1, z, by omega, by go_num, rfl⟩
              case measure => simp [intOf]; omega
            · rw [if_neg hql] at hcx
              clear hval hcells
              go_wp2_with fail
              go_roundw
              case rel => exact ⟨q + 1, z, by omega, by go_num, rfl⟩
              case measure => simp [intOf]; omega
          · go_wp2_with fail
            go_roundw
            case rel => first | exact ⟨k7 + 1, z, by omega, by go_num, rfl⟩ | ((repeat apply Exists.intro); refine ⟨?_, rfl⟩; exact ⟨k7 + 1, z, by omega, by go_num, rfl⟩)
            case measure => simp [intOf]; omega
        · exact absurd (show k7 < ds.length by have := unhide HKC; omega) hkn
      · have hkn : k7 < ds.length := by
          by_cases h : k7 < ds.length
          · exact h
          · exact absurd (unhide HL6 (by omega)) (by omega)
        have hoc := addD_ne ds c k7 (pad sz xs) hkn hkc
        rw [List.getElem?_eq_getElem (by rw [← unhide HL4]; exact hlt7), List.getElem?_eq_getElem hkn] at hoc
        rw [Option.some.inj hoc] at hol hord
        obtain ⟨xb, xoff, xao, xl2, xcp, hsome2, hxcell, hxl2, hxrd, _⟩ := (unhide HMC).row k7 hkn
        cases hsome2
        have hne : ((k7 : Int) != (c : Int)) = true := by rw [bne_iff_ne]; omega
        have hsmall : ds[k7].length ≤ 1000000000 := by have := (unhide HS).2 ds[k7] (List.getElem_mem hkn); omega
        have HO := hide hord
        have HX := hide hxrd
        clear hol hord hxl2 hxrd hoc
        have hcall := same_any (.slice oao ol ocp) (.slice xao xl2 xcp) ds[k7] (w4.drewN q7) ((unhide HO).drewN _) ((unhide HX).drewN _) hsmall
        go_wp2_with fail
        refine hcall.mono ?_
        rintro e w5 ⟨rfl, n5, rfl⟩
        clear hcall
        go_wp2_with fail
        go_roundw
        case rel => first | exact ⟨k7 + 1, q7 + n5, by omega, by go_num, rfl⟩ | ((repeat apply Exists.intro); refine ⟨?_, rfl⟩; exact ⟨k7 + 1, q7 + n5, by omega, by go_num, rfl⟩)
        case measure => simp [intOf]; omega
    · go_wp2
      go_ret
      exact ⟨rfl, bdN (unhide HBF) q7⟩
  · have hla := unhide HLA
    rw [if_neg hnew] at hla
    have hb4 : ((c : Int) == (ds.length : Int)) = true := by rw [beq_iff_eq]; omega
    have hl4a : (len4 : Int) ≤ (ds.length : Int) + 1 := by omega
    have hl4b : (ds.length : Int) + 1 ≤ (len4 : Int) := by omega
    have hl4c : ((len4 : Int) != (ds.length : Int) + 1) = false := by rw [bne_eq_false_iff_eq]; omega
    clear hla
    go_wp2_with fail
    go_loopw [21, 22, 23, 24] (fun i _ _ _ wr => ∃ (k q : Nat), k ≤ len4 ∧ i = .int .i64 k ∧ wr = w4.drewN q) (fun i _ _ _ _ => len4 - (intOf i).toNat)
    case atStart => exact ⟨0, 0, Nat.zero_le _, rfl, rfl⟩
    case round =>
    obtain ⟨k7, q7, hk7, rfl, rfl⟩ := hrel
    by_cases hlt7 : k7 < len4
    · obtain ⟨ob, ooff, oao, ol, ocp, hsome, hocell, hol, hord, _⟩ := (unhide HMO).row k7 (by rw [← unhide HL4]; exact hlt7)
      cases hsome
      by_cases hkc : k7 = c
      · have hoc : (addD ds c (pad sz xs))[k7]? = some (ds[k7]?.getD [] ++ pad sz xs) := by rw [hkc]; exact addD_at ds c (pad sz xs) hcc
        rw [List.getElem?_eq_getElem (by rw [← unhide HL4]; exact hlt7)] at hoc
        rw [Option.some.inj hoc] at hol hord
        obtain ⟨old, hold⟩ : ∃ old, ds[k7]?.getD [] = old := ⟨_, rfl⟩
        rw [hold] at hol hord
        have hpl : (pad sz xs).length = sz := pad_length sz xs (by rw [unhide HXL]; omega)
        have hol2 : ol = old.length + sz := by rw [hol, List.length_append, hpl]
        have holb : old.length ≤ 1048576 := by
          rw [← hold]
          by_cases h : k7 < ds.length
          · rw [List.getElem?_eq_getElem h]
            exact (unhide HS).2 ds[k7] (List.getElem_mem h)
          · rw [List.getElem?_eq_none (by omega)]
            exact Nat.zero_le _
        have hne : ((k7 : Int) != (c : Int)) = false := by rw [bne_eq_false_iff_eq]; omega
        obtain ⟨ocap, hocap⟩ : ∃ z : Nat, z = ocp := ⟨_, rfl⟩
        have hocl : ol ≤ ocp := by
          obtain ⟨_, _, _, hv, hle, _⟩ := hord
          simp only [Value.slice.injEq] at hv
          omega
        have HORD := hide hord
        have HOL := hide hol2
        have hol3 : (ol : Int) ≤ (old.length : Int) + (sz : Int) := by omega
        have hol4 : (old.length : Int) + (sz : Int) ≤ (ol : Int) := by omega
        have HKC := hide hkc
        have HOLD := hide hold
        clear hol hord hoc hold hkc hol2 hocap
        have hkn : ¬ k7 < ds.length := by have := unhide HKC; omega
        have ho : old = [] := by rw [← unhide HOLD, List.getElem?_eq_none (by omega)]; rfl
        subst ho
        have HORD2 : Hid (Rd w4 (.slice oao ol ocp) (pad sz xs)) := unhide HORD
        have hcall := same_any (.slice oao 0 ocp) (.slice none 0 0) [] (w4.drewN q7) (((unhide HORD).take).drewN _) (Rd.nil _) (Nat.zero_le _)
        have hol5 : (ol : Int) ≤ (sz : Int) := by simpa using hol3
        have hol6 : (sz : Int) ≤ (ol : Int) := by simpa using hol4
        clear hol3 hol4
        go_wp2_with fail
        refine hcall.mono ?_
        rintro e w5 ⟨rfl, n5, rfl⟩
        clear hcall
        go_wp2_with fail
        have HPAD : Hid (∀ t, t < sz → (pad sz xs).getD t 0 = if t < xl then xs.getD t 0 else 0) := fun t ht => by
          have := pad_get sz xs t ht
          rw [List.getD_eq_getElem?_getD, this, unhide HXL]
          rfl
        go_loopw [23, 24] (fun t _ wr => ∃ (q z : Nat), q ≤ sz ∧ t = .int .i64 q ∧ wr = w4.drewN z) (fun t _ _ => sz - (intOf t).toNat)
        case atStart => exact ⟨0, q7 + n5, Nat.zero_le _, rfl, rfl⟩
        case round =>
        obtain ⟨q, z, hq, rfl, rfl⟩ := hrel
        by_cases hqlt : q < sz
        · obtain ⟨ob2, ooff2, hcs, hcells⟩ := (unhide HORD2).cells (by rw [pad_length sz xs (by rw [unhide HXL]; omega)]; omega)
          cases hcs
          have hval := unhide HPAD q hqlt
          have hcx := hcells q (by rw [pad_length sz xs (by rw [unhide HXL]; omega)]; omega)
          rw [hval] at hcx
          by_cases hql : q < xl
          · obtain ⟨rb2, roff2, hrs, hrcells⟩ := (unhide HRD).cells (by rw [unhide HXL]; omega)
            cases hrs
            have hrx := hrcells q (by rw [unhide HXL]; omega)
            rw [if_pos hql] at hcx
            obtain ⟨x, hx⟩ : ∃ x, xs.getD q 0 = x := ⟨_, rfl⟩
            rw [hx] at hcx hrx
            clear hval hcells hrcells hx
            go_wp2_with fail
            go_roundw
            case rel => exact ⟨q + 1, z, by omega, by go_num, rfl⟩
            case measure => simp [intOf]; omega
          · rw [if_neg hql] at hcx
            clear hval hcells
            go_wp2_with fail
            go_roundw
            case rel => exact ⟨q + 1, z, by omega, by go_num, rfl⟩
            case measure => simp [intOf]; omega
        · go_wp2_with fail
          go_roundw
          case rel => first | exact ⟨k7 + 1, z, by omega, by go_num, rfl⟩ | ((repeat apply Exists.intro); refine ⟨?_, rfl⟩; exact ⟨k7 + 1, z, by omega, by go_num, rfl⟩)
          case measure => simp [intOf]; omega
      · have hkn : k7 < ds.length := by
          by_cases h : k7 < ds.length
          · exact h
          · exact absurd (unhide HL6 (by omega)) (by omega)
        have hoc := addD_ne ds c k7 (pad sz xs) hkn hkc
        rw [List.getElem?_eq_getElem (by rw [← unhide HL4]; exact hlt7), List.getElem?_eq_getElem hkn] at hoc
        rw [Option.some.inj hoc] at hol hord
        obtain ⟨xb, xoff, xao, xl2, xcp, hsome2, hxcell, hxl2, hxrd, _⟩ := (unhide HMC).row k7 hkn
        cases hsome2
        have hne : ((k7 : Int) != (c : Int)) = true := by rw [bne_iff_ne]; omega
        have hsmall : ds[k7].length ≤ 1000000000 := by have := (unhide HS).2 ds[k7] (List.getElem_mem hkn); omega
        have HO := hide hord
        have HX := hide hxrd
        clear hol hord hxl2 hxrd hoc
        have hcall := same_any (.slice oao ol ocp) (.slice xao xl2 xcp) ds[k7] (w4.drewN q7) ((unhide HO).drewN _) ((unhide HX).drewN _) hsmall
        go_wp2_with fail
        refine hcall.mono ?_
        rintro e w5 ⟨rfl, n5, rfl⟩
        clear hcall
        go_wp2_with fail
        go_roundw
        case rel => first | exact ⟨k7 + 1, q7 + n5, by omega, by go_num, rfl⟩ | ((repeat apply Exists.intro); refine ⟨?_, rfl⟩; exact ⟨k7 + 1, q7 + n5, by omega, by go_num, rfl⟩)
        case measure => simp [intOf]; omega
    · go_wp2
      go_ret
      exact ⟨rfl, bdN (unhide HBF) q7⟩

end Go.Proofs.Qxb6603163a
