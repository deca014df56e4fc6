/- FnRecordStoreAddScriptReadsBack: the walk. -/
import Derived.Test.Qxb6603163aZadd
import Derived.Test.Qxb6603163aZz
import Derived.Test.Qxb6603163aOpen
namespace Go.Proofs.Qxb6603163a
open Go.ChangeShapes Go.WideShapes Go.ChangeAt Go.RowKit

/-- What record i leaves in its slot. -/
def slotOf (size : Nat) (ds : List (List Int)) (i : Nat) : List Int := pad size (ds[i]?.getD [])

theorem slotOf_length {size : Nat} {ds : List (List Int)} (h : ∀ (j : Nat) (d : List Int), j < ds.length → ds[j]? = some d → (d.length : Int) ≤ size) (i : Nat) (hi : i < ds.length) : (slotOf size ds i).length = size := by
  unfold slotOf
  rw [List.getElem?_eq_getElem hi]
  exact pad_length _ _ (by have := h i ds[i] hi (List.getElem?_eq_getElem hi); simp; omega)

/-- The reading part: what was laid reads back. -/
theorem back_cell {size k i t : Nat} {ds : List (List Int)} (hl : ∀ i, i < ds.length → (slotOf size ds i).length = size) (hk : k = ds.length) (hi : i < k) (ht : t < size) :
    (chunkAt (slotOf size ds) k (i / 4096))[(i % 4096) * size + t]? = some (if t < (ds[i]?.getD []).length then (ds[i]?.getD []).getD t 0 else 0) := by
  rw [chunkAt_get _ size k i t (fun i hi => hl i (by omega)) hi ht]
  exact pad_get size _ t ht

set_option maxRecDepth 100000 in
set_option maxHeartbeats 4000000 in
theorem script_walk (a0 : Int) (w0 : (Lit.int .i64 a0).wf = true) (v : Value) (ds : List (List Int)) (w : World) (hm : Mt w v ds) :
    Calls Try.prog 5 #[.int .i64 a0, v] w fun e w' => LawPost w e w' := by
  have hb0 := bounds_i64 w0
  have hz := zzScript v ds a0 w hm
  obtain ⟨va, vc, hv⟩ := hm.form
  subst hv
  have HM := hide hm
  have HZ := hide hz
  clear hm hz w0
  go_enter Try.func5, Try.ntmps5
  go_wp2_with (go_at_call 14; refine (unhide HZ).mono ?_; rintro e w ⟨hz, rfl⟩; rcases hz with ⟨rfl, hsized⟩ | rfl)
  · go_ret
    exact ⟨rfl, Below.refl _ _⟩
  · go_ret
    exact ⟨rfl, Below.refl _ _⟩
  rotate_left
  · go_ret
    exact ⟨rfl, Below.refl _ _⟩
  have hn1 : (ds.length : Int) ≤ 65536 := by assumption
  have HS := hide hsized
  clear hsized HZ
  go_loop [5, 6] (fun z i => ∃ (k : Nat) (t : Int), k ≤ ds.length ∧ i = .int .i64 k ∧ z = .int .i64 t ∧ 0 ≤ t ∧ t ≤ 1048576) (fun _ i => ds.length - (intOf i).toNat)
  case atStart => exact ⟨0, _, Nat.zero_le _, rfl, rfl, by omega, by omega⟩
  case round =>
  obtain ⟨k, t, hk, rfl, rfl, ht0, ht1⟩ := hrel
  by_cases hlt : k < ds.length
  · obtain ⟨b, off, ao, l, cp, hsome, hcell, hl, _, _⟩ := (unhide HM).row k hlt
    cases hsome
    have hl2 : l ≤ 1048576 := by have := (unhide HS).2 ds[k] (List.getElem_mem hlt); omega
    clear hl
    go_wp2
    · go_ret
      exact ⟨rfl, Below.refl _ _⟩
    · go_round
      case rel => exact ⟨k + 1, t + l, by omega, by go_num, by go_num, by omega, by omega⟩
      case measure => simp [intOf]; omega
  by_cases hs1 : a0 < 0
  · go_wp2
    go_ret
    exact ⟨rfl, Below.refl _ _⟩
  have hs1' : decide (a0 < 0) = false := by simpa using hs1
  by_cases hs2 : 1024 < a0
  · go_wp2
    go_ret
    exact ⟨rfl, Below.refl _ _⟩
  obtain ⟨sz, rfl⟩ : ∃ sz : Nat, a0 = sz := ⟨a0.toNat, by omega⟩
  obtain ⟨M, hM⟩ : ∃ M : Nat, sz * ds.length = M := ⟨_, rfl⟩
  have hprod : (sz : Int) * (ds.length : Int) = (M : Int) := by rw [← hM]; simp
  have hM2 : M ≤ 1024 * 65536 := by rw [← hM]; exact Nat.mul_le_mul (by omega) (by omega)
  have hsz : sz ≤ 1024 := by omega
  have HPROD := hide hM
  clear hM
  by_cases hMb : 4194304 < (M : Int)
  · go_wp2
    go_ret
    exact ⟨rfl, Below.refl _ _⟩
  go_wp2
  clear hprod
  go_loop [7] (fun i => ∃ (k : Nat), k ≤ ds.length ∧ i = .int .i64 k ∧ Hid (∀ (j : Nat) (d : List Int), j < k → ds[j]? = some d → (d.length : Int) ≤ sz)) (fun i => ds.length - (intOf i).toNat)
  case atStart => exact ⟨0, Nat.zero_le _, rfl, fun j d hj => by omega⟩
  case round =>
  obtain ⟨k2, hk2, rfl, HB⟩ := hrel
  by_cases hlt2 : k2 < ds.length
  · obtain ⟨b, off, ao, l, cp, hsome, hcell, hl, _, _⟩ := (unhide HM).row k2 hlt2
    cases hsome
    have HL := hide hl
    clear hl
    by_cases hbig : (sz : Int) < (l : Int)
    · go_wp2
      go_ret
      exact ⟨rfl, Below.refl _ _⟩
    · go_wp2
      go_round
      case rel =>
        refine ⟨k2 + 1, by omega, by go_num, fun j d hj hd => ?_⟩
        by_cases hjk : j = k2
        · subst hjk
          rw [List.getElem?_eq_getElem hlt2] at hd
          cases hd
          have := unhide HL
          omega
        · exact unhide HB j d (by omega) hd
      case measure => simp [intOf]; omega
  have HRW : Hid (∀ (j : Nat) (d : List Int), j < ds.length → ds[j]? = some d → (d.length : Int) ≤ sz) := fun j d hj hd => unhide HB j d (by omega) hd
  clear HB
  go_wp2_with (go_at_call 11; refine (cloneChunks_any _ ds _ (unhide HM) (unhide HS).1 (unhide HS).2).mono ?_; rintro e w1 ⟨ao1, cap1, rfl, hst1, hbel1⟩)
  have hB1 : w.heap.size ≤ w1.heap.size := hbel1.size
  have HM1 := hide hst1.mt
  have HB1 := hide hbel1
  have HSL : Hid (∀ i, i < ds.length → (slotOf sz ds i).length = sz) := fun i hi => slotOf_length (unhide HRW) i hi
  clear hst1 hbel1 hk hlt hk2 hlt2 ht0 ht1 hs1' hs1 hs2
  go_loopw [8, 9, 10] (fun cvv nn i wr => ∃ (k : Nat) (ao : Option Addr) (cap len : Nat), k ≤ ds.length ∧ i = .int .i64 k ∧ nn = .int .u32 k ∧ cvv = .slice ao len cap ∧
      Hid (len = (chunksOf (slotOf sz ds) k).length ∧ Store wr w1.heap.size (.slice ao len cap) (chunksOf (slotOf sz ds) k) ∧ Below w1.heap.size w1 wr)) (fun _ _ i _ => ds.length - (intOf i).toNat)
  case atStart => exact ⟨0, none, 0, 0, Nat.zero_le _, rfl, rfl, rfl, by rw [chunksOf_zero]; rfl, by rw [chunksOf_zero]; exact Store.nil _ _, Below.refl _ _⟩
  case round =>
  obtain ⟨k3, ao3, cap3, len3, hk3, rfl, rfl, rfl, HR3⟩ := hrel
  by_cases hlt3 : k3 < ds.length
  · obtain ⟨b, off, rao, l, cp, hsome, hcell1, hl, hrd, hb⟩ := (unhide HM1).row k3 hlt3
    cases hsome
    have hcell : wr.cell? ⟨b, off + k3, none⟩ = some (.slice rao l cp) := ((unhide HR3).2.2.cell (p := ⟨b, off + k3, none⟩) hb).trans hcell1
    have hcall := zadd_any w1.heap.size k3 (k3 / 4096) sz (.slice ao3 len3 cap3) (.slice rao l cp) ds[k3] (chunksOf (slotOf sz ds) k3) wr (unhide HR3).2.1
      (fun w' hb' => hrd.below ((unhide HR3).2.2.trans hb')) (unhide HR3).2.2.size (by omega) rfl (chunk_le _ _) hsz
      (by have := unhide HRW k3 ds[k3] hlt3 (List.getElem?_eq_getElem hlt3); omega) (fun d hd => chunk_room _ sz k3 (fun i hi => unhide HSL i (by omega)) d hd)
    have hadd : addD (chunksOf (slotOf sz ds) k3) (k3 / 4096) (pad sz ds[k3]) = chunksOf (slotOf sz ds) (k3 + 1) := by
      rw [← chunksOf_succ]
      unfold slotOf
      rw [List.getElem?_eq_getElem hlt3]
      rfl
    have HC := hide hcall
    have HADD := hide hadd
    have HRD := hide hrd
    clear hcall hadd hrd hl hcell1
    go_wp2_with (go_at_call 12; refine (unhide HC).mono ?_; rintro e w2 ⟨ao4, cap4, len4, rfl, hl4, hst4, hbel4⟩; rw [unhide HADD] at hl4 hst4; have HL4 := hide hl4; have HST4 := hide hst4; have HBEL4 := hide hbel4; clear hl4 hst4 hbel4)
    go_roundw
    case rel => exact ⟨k3 + 1, ao4, cap4, len4, by omega, by go_num, by go_num, rfl, HL4, unhide HST4, (unhide HR3).2.2.trans (unhide HBEL4)⟩
    case measure => simp [intOf]; omega
  have hke : k3 = ds.length := by omega
  have hl3 := (unhide HR3).1
  rw [chunksOf_length, hke] at hl3
  have hl3a : (len3 : Int) ≤ ((ds.length : Int) + 4095) / 4096 := by omega
  have hl3b : ((ds.length : Int) + 4095) / 4096 ≤ (len3 : Int) := by omega
  have hl3c : len3 ≤ 1000 := by omega
  have HMC : Hid (Mt wr (.slice ao3 len3 cap3) (chunksOf (slotOf sz ds) ds.length)) := by have := (unhide HR3).2.1.mt; rw [hke] at this; exact this
  have HL3 := hide hl3
  have HMR : Hid (Mt wr (.slice ao1 ds.length cap1) ds) := (unhide HM1).below (unhide HR3).2.2
  have HBF : Hid (Below w.heap.size w wr) := (unhide HB1).trans ((unhide HR3).2.2.mono hB1)
  clear hl3 HR3 hke HM1 HB1
  go_wp2_with fail
  go_loop [16, 17] (fun i _ => ∃ (j : Nat), j ≤ len3 ∧ i = .int .i64 j) (fun i _ => len3 - (intOf i).toNat)
  case atStart => exact ⟨0, Nat.zero_le _, rfl⟩
  case round =>
  obtain ⟨j, hj, rfl⟩ := hrel
  by_cases hjlt : j < len3
  · have hjn : j < (ds.length + 4095) / 4096 := by rw [← unhide HL3]; exact hjlt
    obtain ⟨b, off, ao, l, cp, hsome, hcell, hl, _, _⟩ := (unhide HMC).row j (by rw [chunksOf_length]; exact hjn)
    cases hsome
    have hcl : l = min 4096 (ds.length - 4096 * j) * sz := by
      rw [hl, ← chunkAt_length (slotOf sz ds) sz ds.length j (unhide HSL)]
      have := chunksOf_get (slotOf sz ds) ds.length j hjn
      rw [List.getElem?_eq_getElem (by rw [chunksOf_length]; exact hjn)] at this
      rw [Option.some.inj this]
    clear hl
    by_cases hcnt : (4096 : Int) < (ds.length : Int) - 4096 * (j : Int)
    · have hm : min 4096 (ds.length - 4096 * j) = 4096 := by omega
      rw [hm] at hcl
      have ha : (l : Int) ≤ 4096 * (sz : Int) := by omega
      have hb : 4096 * (sz : Int) ≤ (l : Int) := by omega
      clear hcl
      go_wp2
      go_round
      case rel => exact ⟨j + 1, by omega, by go_num⟩
      case measure => simp [intOf]; omega
    · have hm : min 4096 (ds.length - 4096 * j) = ds.length - 4096 * j := by omega
      rw [hm] at hcl
      obtain ⟨q, hq⟩ : ∃ q : Nat, ds.length - 4096 * j = q := ⟨_, rfl⟩
      rw [hq] at hcl
      have hq2 : (ds.length : Int) - 4096 * (j : Int) = (q : Int) := by omega
      have hp : (q : Int) * (sz : Int) = (l : Int) := by rw [hcl]; simp
      have hl4 : l ≤ 4096 * 1024 := by rw [hcl]; exact Nat.mul_le_mul (by omega) hsz
      have hq4 : ¬ (4096 : Int) < (q : Int) := by omega
      clear hcl hq hm
      go_wp2
      go_round
      case rel => exact ⟨j + 1, by omega, by go_num⟩
      case measure => simp [intOf]; omega
  skip
  go_wp2_with fail
  go_loop [18, 19, 20, 21, 22] (fun i _ _ _ _ => ∃ (k : Nat), k ≤ ds.length ∧ i = .int .i64 k) (fun i _ _ _ _ => ds.length - (intOf i).toNat)
  case atStart => exact ⟨0, Nat.zero_le _, rfl⟩
  case round =>
  obtain ⟨k5, hk5, rfl⟩ := hrel
  by_cases hlt5 : k5 < ds.length
  · obtain ⟨cb, coff, cao, cl, ccp, hsome, hcc, hcl, hcrd, _⟩ := (unhide HMC).row (k5 / 4096) (by rw [chunksOf_length]; omega)
    cases hsome
    obtain ⟨rb, roff, rao, rl, rcp, hsome2, hrc, hrl, hrrd, _⟩ := (unhide HMR).row k5 hlt5
    cases hsome2
    have hch : (chunksOf (slotOf sz ds) ds.length)[k5 / 4096]'(by rw [chunksOf_length]; omega) = chunkAt (slotOf sz ds) ds.length (k5 / 4096) := by
      have := chunksOf_get (slotOf sz ds) ds.length (k5 / 4096) (by omega)
      rw [List.getElem?_eq_getElem (by rw [chunksOf_length]; omega)] at this
      exact Option.some.inj this
    rw [hch] at hcrd hcl
    obtain ⟨O, hO⟩ : ∃ O : Nat, (k5 % 4096) * sz = O := ⟨_, rfl⟩
    have hO2 : ((k5 : Int) % 4096) * (sz : Int) = (O : Int) := by rw [← hO]; simp
    have hO3 : O ≤ 4096 * 1024 := by rw [← hO]; exact Nat.mul_le_mul (by omega) hsz
    have hcl2 : O + sz ≤ cl := by
      rw [hcl, chunkAt_length _ sz _ _ (unhide HSL), ← hO]
      have h1 : (k5 % 4096 + 1) ≤ min 4096 (ds.length - 4096 * (k5 / 4096)) := by omega
      have := Nat.mul_le_mul_right sz h1
      rw [Nat.succ_mul] at this
      exact this
    have hclm : cl ≤ 4096 * 1024 := by rw [hcl, chunkAt_length _ sz _ _ (unhide HSL)]; exact Nat.mul_le_mul (by omega) hsz
    have hk5n : k5 / 4096 < len3 := by rw [unhide HL3]; omega
    have hk5m : (k5 : Int) / 4096 < (len3 : Int) := by omega
    have HBK : Hid (∀ t, t < sz → (chunkAt (slotOf sz ds) ds.length (k5 / 4096)).getD (O + t) 0 = if t < rl then ds[k5].getD t 0 else 0) := by
      intro t ht
      have := back_cell (unhide HSL) rfl hlt5 ht
      rw [hO, List.getElem?_eq_getElem hlt5, Option.getD_some] at this
      rw [List.getD_eq_getElem?_getD, this, hrl]
      rfl
    have HCR := hide hcrd
    have HRR := hide hrrd
    have HRL := hide hrl
    have HCL := hide hcl
    have hrl2 : rl ≤ sz := by have := unhide HRW k5 ds[k5] hlt5 (List.getElem?_eq_getElem hlt5); omega
    clear hcrd hrrd hrl hcl hch hO
    go_wp2_with fail
    go_loop [21, 22] (fun t _ => ∃ (q : Nat), q ≤ sz ∧ t = .int .i64 q) (fun t _ => sz - (intOf t).toNat)
    case atStart => exact ⟨0, Nat.zero_le _, rfl⟩
    case round =>
    obtain ⟨q, hq, rfl⟩ := hrel
    by_cases hqlt : q < sz
    · obtain ⟨cb2, coff2, hcs, hcells⟩ := (unhide HCR).cells (by rw [← unhide HCL]; omega)
      cases hcs
      have hval := unhide HBK q hqlt
      have hcx := hcells (O + q) (by rw [← unhide HCL]; omega)
      rw [hval] at hcx
      by_cases hql : q < rl
      · obtain ⟨rb2, roff2, hrs, hrcells⟩ := (unhide HRR).cells (by rw [← unhide HRL]; omega)
        cases hrs
        have hrx := hrcells q (by rw [← unhide HRL]; omega)
        rw [if_pos hql] at hcx
        obtain ⟨x, hx⟩ : ∃ x, ds[k5].getD q 0 = x := ⟨_, rfl⟩
        rw [hx] at hcx hrx
        clear hval hcells hrcells hx
        go_wp2
        go_round
        case rel => exact ⟨q + 1, by omega, by go_num⟩
        case measure => simp [intOf]; omega
      · rw [if_neg hql] at hcx
        clear hval hcells
        go_wp2
        go_round
        case rel => exact ⟨q + 1, by omega, by go_num⟩
        case measure => simp [intOf]; omega
    · go_wp2
      go_round
      case rel => exact ⟨k5 + 1, by omega, by go_num⟩
      case measure => simp [intOf]; omega
  · go_wp2
    go_ret
    exact ⟨rfl, unhide HBF⟩

end Go.Proofs.Qxb6603163a
