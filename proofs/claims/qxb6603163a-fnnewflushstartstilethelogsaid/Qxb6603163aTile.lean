/- FnNewFlushStartsTileTheLog: the walk. -/
import Derived.Test.Qxb6603163aTot
import Derived.Deep.DeepCutAuto
import Derived.Deep.CutBlock
namespace Go.Proofs.Qxb6603163a
open Go.ChangeShapes Go.WideShapes Go.ChangeAt Go.RowKit
set_option linter.unusedVariables false
theorem start_at {w : World} {F V N M pf n bounds s : Nat} {L : List Int} (rF : w.rowIs F 25 N (fun q => .int .u32 (fin1 L s pf bounds q))) (rV : w.rowIs V 43 M (fun j => .int .u16 (fin2 L s pf bounds (j / 8) (j % 8)))) (hN : n * pf = N) (hM : 8 * N = M)
    (hNN : N ≤ 2097152) (hn : n ≤ 256) (hpf : (bounds + 7) / 8 = pf) (hbl : bounds ≤ 1052673) (hs : s ≤ 4096) (hL : L.length ≤ 1048576) (q f b z : Nat) (hf : f < n) (hb : b < bounds) (hz : bas L f + C L s f b = z) :
    Calls Try.prog 19 #[.slice (some ⟨F, 0, none⟩) N N, .slice (some ⟨V, 0, none⟩) M M, .int .i64 pf, .int .i64 f, .int .i64 b] (w.drewN q) fun e w' => ∃ m, e = .returned (.int .u32 z) ∧ w' = w.drewN m := by
  have hp : b / 8 < pf := by omega
  have hg := gidx_lt hp hf
  have hsum := fin_sum L s pf bounds f b hs hb hp
  have hle := bas_C_le L s f b
  refine (start_any F V N M pf f b (f * pf + b / 8) (8 * (f * pf + b / 8) + b % 8) (fin1 L s pf bounds (f * pf + b / 8)) (fin2 L s pf bounds (f * pf + b / 8) (b % 8)) z (w.drewN q) rfl rfl (by omega) (by omega) (by omega) (by omega) (by omega) (by omega)
    (rF.cell (by omega)) ?_ (by omega) (by omega)).mono ?_
  · have := rV.cell (i := 8 * (f * pf + b / 8) + b % 8) (by omega)
    rw [show (8 * (f * pf + b / 8) + b % 8) / 8 = f * pf + b / 8 by omega, show (8 * (f * pf + b / 8) + b % 8) % 8 = b % 8 by omega] at this
    exact this
  · rintro e w' ⟨rfl, m, rfl⟩
    exact ⟨q + m, rfl, World.drewN_drewN _ _ _⟩
theorem C_step (L : List Int) (s f b p1 rm : Nat) (hp : b * s = p1) (hlt : p1 ≤ L.length) (hrm : min (L.length - p1) s = rm) : C L s f b = cnt L f p1 ∧ C L s f (b + 1) = cnt L f p1 + ((L.drop p1).take rm).count (f : Int) := by
  have h1 : C L s f b = cnt L f p1 := by unfold C; rw [hp, Nat.min_eq_left hlt]
  refine ⟨h1, ?_⟩
  rw [← cnt_add]
  unfold C
  rw [Nat.add_mul, Nat.one_mul, hp]
  congr 1
  omega

set_option maxRecDepth 100000 in
set_option maxHeartbeats 8000000 in
theorem tile_walk (v : Value) (ds : List (List Int)) (a1 : Int) (w1 : (Lit.int .i64 a1).wf = true) (a2 : Int) (w2 : (Lit.int .i64 a2).wf = true) (w : World) (hm : Mt w v ds) :
    Calls Try.prog 7 #[v, .int .i64 a1, .int .i64 a2] w fun e w' => LawPost w e w' := by
  have hb1 := bounds_i64 w1
  have hb2 := bounds_i64 w2
  have hz := zzTile v ds a1 a2 w hm
  have hcl : Sized ds → Calls Try.prog 11 #[v] w fun e w' => ∃ ao cap, e = .returned (.slice ao ds.length cap) ∧ Store w' w.heap.size (.slice ao ds.length cap) ds ∧ Below w.heap.size w w' := fun hs => cloneChunks_any v ds w hm hs.1 hs.2
  obtain ⟨va, vc, hv⟩ := hm.form
  subst hv
  have HM := hide hm
  have HZ := hide hz
  have HCL := hide hcl
  clear hm hz w1 w2 hcl
  obtain ⟨len, hlen⟩ : ∃ len, ds.length = len := ⟨_, rfl⟩
  rw [hlen] at HZ HM HCL
  rw [hlen]
  have HLEN := hide hlen
  clear hlen
  by_cases hn1 : 65536 < (len : Int)
  · go_enter Try.func7, Try.ntmps7
    go_wp2_with (go_at_call 18; refine (unhide HZ).mono ?_; rintro e w ⟨hz, rfl⟩; rcases hz with ⟨rfl, hsized⟩ | rfl)
    all_goals go_ret
    all_goals exact ⟨rfl, Below.refl _ _⟩
  have hg1 : decide (65536 < (len : Int)) = false := by simpa using hn1
  by_cases hx2 : 1048576 < 24 * (len : Int)
  · go_enter Try.func7, Try.ntmps7
    go_wp2_with (go_at_call 18; refine (unhide HZ).mono ?_; rintro e w ⟨hz, rfl⟩; rcases hz with ⟨rfl, hsized⟩ | rfl)
    all_goals go_ret
    all_goals exact ⟨rfl, Below.refl _ _⟩
  go_enter Try.func7, Try.ntmps7
  go_wp2_with (go_at_call 18; refine (unhide HZ).mono ?_; rintro e w ⟨hz, rfl⟩; rcases hz with ⟨rfl, hsized⟩ | rfl)
  rotate_left
  · go_ret
    exact ⟨rfl, Below.refl _ _⟩
  have HS := hide hsized
  clear hsized HZ
  go_loop [7, 8] (fun z i => ∃ (k t : Nat), k ≤ len ∧ i = .int .i64 k ∧ z = .int .i64 t ∧ t ≤ 1048576 ∧ Hid (24 * len + tot ds k = t)) (fun _ i => len - (intOf i).toNat)
  case atStart => exact ⟨0, 24 * len, Nat.zero_le _, rfl, by go_num, by omega, by rw [tot_zero]; rfl⟩
  case round =>
  obtain ⟨k, t, hk, rfl, rfl, ht1, HT⟩ := hrel
  by_cases hlt : k < len
  · obtain ⟨b, off, ao, l, cp, hsome, hcell, hl⟩ := row_len HLEN (unhide HM) hlt
    cases hsome
    have hl2 : l ≤ 1048576 := by
      have := (unhide HS).2 (ds[k]'(by rw [unhide HLEN]; exact hlt)) (List.getElem_mem _)
      rw [tot_len_eq hl] at this
      exact this
    have HL := hide hl
    clear hl
    by_cases hbig : (1048576 : Int) - (t : Int) < (l : Int)
    · go_wp2
      go_ret
      exact ⟨rfl, Below.refl _ _⟩
    · go_wp2
      go_round
      case rel => exact ⟨k + 1, t + l, by omega, by go_num, by go_num, by omega, by have h1 := unhide HT; have h2 := unhide HL; show _ = _; omega⟩
      case measure => simp [intOf]; omega
  have hke : k = len := by omega
  have htot : tot ds len ≤ 1048576 := by rw [← hke]; have := unhide HT; omega
  clear hke HT hk
  by_cases hs1 : a1 < 0
  · go_wp2
    go_ret
    exact ⟨rfl, Below.refl _ _⟩
  have hs1' : decide (a1 < 0) = false := by simpa using hs1
  by_cases hs2 : 256 < a1
  · go_wp2
    go_ret
    exact ⟨rfl, Below.refl _ _⟩
  have hs2' : decide (256 < a1) = false := by simpa using hs2
  obtain ⟨n, rfl⟩ : ∃ n : Nat, a1 = n := ⟨a1.toNat, by omega⟩
  have hn : n ≤ 256 := by omega
  by_cases hs3 : a2 < 1
  · go_wp2
    go_ret
    exact ⟨rfl, Below.refl _ _⟩
  have hs3' : decide (a2 < 1) = false := by simpa using hs3
  by_cases hs4 : 4096 < a2
  · go_wp2
    go_ret
    exact ⟨rfl, Below.refl _ _⟩
  have hs4' : decide (4096 < a2) = false := by simpa using hs4
  obtain ⟨s, rfl⟩ : ∃ s : Nat, a2 = s := ⟨a2.toNat, by omega⟩
  have hsl : 1 ≤ s := by omega
  have hsu : s ≤ 4096 := by omega
  have hs0 : ((s : Int) == 0) = false := by rw [beq_eq_false_iff_ne]; omega
  obtain ⟨r, hr⟩ : ∃ r, 4096 % s = r := ⟨_, rfl⟩
  have hr1 : (4096 : Int) % (s : Int) = (r : Int) := by rw [← hr]; simp
  have HR := hide hr
  clear hr
  by_cases hs5 : r = 0
  rotate_left
  · have hs5' : ((r : Int) != 0) = true := by rw [bne_iff_ne]; omega
    go_wp2
    go_ret
    exact ⟨rfl, Below.refl _ _⟩
  have hs5' : ((r : Int) != 0) = false := by rw [hs5]; rfl
  have hdv : Hid (4096 % s = 0) := by show _ = _; rw [unhide HR, hs5]
  go_wp2_with fail
  go_loop [9, 10] (fun z i => ∃ (k t : Nat), k ≤ len ∧ i = .int .i64 k ∧ z = .int .i64 t ∧ t ≤ 1048576 ∧ Hid (tot ds k = t ∧ FullTo ds k)) (fun _ i => len - (intOf i).toNat)
  case atStart => exact ⟨0, 0, Nat.zero_le _, rfl, rfl, by omega, tot_zero ds, FullTo.zero ds⟩
  case round =>
  obtain ⟨k, ids, hk, rfl, rfl, ht1, HT⟩ := hrel
  by_cases hlt : k < len
  · obtain ⟨b, off, ao, l, cp, hsome, hcell, hl⟩ := row_len HLEN (unhide HM) hlt
    cases hsome
    have hl2 : ids + l ≤ 1048576 := by
      have h1 := (unhide HT).1
      have h2 := tot_mono ds (show k + 1 ≤ len by omega)
      omega
    have HL := hide hl
    clear hl
    by_cases hbig : (4096 : Int) < (l : Int)
    · go_wp2
      go_ret
      exact ⟨rfl, Below.refl _ _⟩
    have hbig' : decide ((4096 : Int) < (l : Int)) = false := by simpa using hbig
    by_cases hlast : (k : Int) < (len : Int) - 1
    · have hlast' : decide ((k : Int) < (len : Int) - 1) = true := by simpa using hlast
      by_cases h4 : l = 4096
      · have h4' : ((l : Int) != 4096) = false := by rw [h4]; rfl
        go_wp2
        go_round
        case rel => exact ⟨k + 1, ids + l, by omega, by go_num, by go_num, by omega, by have h1 := (unhide HT).1; have h2 := unhide HL; omega, (unhide HT).2.next HLEN (unhide HL) (by omega) (by omega)⟩
        case measure => simp [intOf]; omega
      · have h4' : ((l : Int) != 4096) = true := by rw [bne_iff_ne]; omega
        go_wp2
        go_ret
        exact ⟨rfl, Below.refl _ _⟩
    · have hlast' : decide ((k : Int) < (len : Int) - 1) = false := by simpa using hlast
      go_wp2
      go_round
      case rel => exact ⟨k + 1, ids + l, by omega, by go_num, by go_num, by omega, by have h1 := (unhide HT).1; have h2 := unhide HL; omega, (unhide HT).2.next HLEN (unhide HL) (by omega) (by omega)⟩
      case measure => simp [intOf]; omega
  have hke : k = len := by omega
  subst hke
  obtain ⟨L, hL⟩ : ∃ L, ds.flatten = L := ⟨_, rfl⟩
  have HF : Hid (Full ds ∧ ds.flatten = L ∧ L.length = ids) := ⟨(unhide HT).2.full HLEN, hL, by rw [← hL, ← tot_all ds, unhide HLEN]; exact (unhide HT).1⟩
  clear hL HT hlt hk
  obtain ⟨x1, hx1⟩ : ∃ x, ids + s = x := ⟨_, rfl⟩
  obtain ⟨x2, hx2⟩ : ∃ x, ids + s - 1 = x := ⟨_, rfl⟩
  obtain ⟨x3, hx3⟩ : ∃ x, x2 / s = x := ⟨_, rfl⟩
  obtain ⟨bounds, hb⟩ : ∃ x, x3 + 1 = x := ⟨_, rfl⟩
  obtain ⟨nb, hnb⟩ : ∃ x, n * bounds = x := ⟨_, rfl⟩
  obtain ⟨pf, hpf⟩ : ∃ x, (bounds + 7) / 8 = x := ⟨_, rfl⟩
  obtain ⟨N, hN⟩ : ∃ x, n * pf = x := ⟨_, rfl⟩
  have HX : Hid (x3 * s ≤ ids + s - 1 ∧ ids ≤ x3 * s) := by
    have h1 := Nat.div_mul_le_self x2 s
    have h2 := Nat.lt_div_mul_add (a := x2) (b := s) (by omega)
    rw [hx3] at h1 h2
    exact ⟨by omega, by omega⟩
  have e1 : (ids : Int) + (s : Int) = (x1 : Int) := by omega
  have e2 : (x1 : Int) - 1 = (x2 : Int) := by omega
  have e3 : (x2 : Int) / (s : Int) = (x3 : Int) := by rw [← hx3]; simp
  have e4 : (x3 : Int) + 1 = (bounds : Int) := by omega
  have e5 : (n : Int) * (bounds : Int) = (nb : Int) := by rw [← hnb]; simp
  have hx3l : x3 ≤ x2 := by rw [← hx3]; exact Nat.div_le_self _ _
  have hx2l : x2 ≤ 1052672 := by omega
  have hbl : bounds ≤ 1052673 := by omega
  have hnbl : nb ≤ 300000000 := by
    have := Nat.mul_le_mul hn hbl
    omega
  by_cases hs6 : 2097152 < (nb : Int)
  · go_wp2
    go_ret
    exact ⟨rfl, Below.refl _ _⟩
  have hs6' : decide (2097152 < (nb : Int)) = false := by simpa using hs6
  have hpb : pf ≤ bounds := by omega
  have hNN : N ≤ 2097152 := by
    have := Nat.mul_le_mul_left n hpb
    omega
  have e6 : (n : Int) * (pf : Int) = (N : Int) := by rw [← hN]; simp
  have hzn : ∀ v' w', Mt w' v' ds → Calls Try.prog 16 #[v', .int .i64 n, .int .i64 s] w' fun e w'' => ZnPost L s pf bounds N w' e w'' := by
    intro v' w' hm'
    obtain ⟨f1, f2, f3⟩ := unhide HF
    have := znew_any v' ds n s bounds pf N w' hm' f1 (by rw [f2, f3]; exact ht1) hn hsl hsu (unhide hdv) (by rw [f2, f3, hx2, hx3, hb]) hpf hN hNN
    rw [f2] at this
    exact this
  have HZN := hide hzn
  clear hzn hx1 hx3 hnb
  go_wp2_with fail
  refine (unhide HCL (unhide HS)).mono ?_
  rintro e wa ⟨ao, cap, rfl, hst, hbel⟩
  have HST := hide (And.intro hst.mt hbel)
  clear hst hbel HCL HS HM
  go_wp2_with fail
  refine (unhide HZN _ _ (unhide HST).1).mono ?_
  rintro e wb ⟨F, V, rfl, hF, hV, rF, rV, hbel2⟩
  obtain ⟨M, hM⟩ : ∃ M, 8 * N = M := ⟨_, rfl⟩
  have HROW := hide (And.intro rF (And.intro rV (And.intro hbel2 (And.intro hF hV))))
  rw [hM] at HROW ⊢
  have e7 : (8 : Int) * (N : Int) = (M : Int) := by omega
  have hMl : M ≤ 16777216 := by omega
  clear rF rV hbel2 HZN hF hV
  have HSA : Hid (∀ q f b z, f < n → b < bounds → bas L f + C L s f b = z → Calls Try.prog 19 #[.slice (some ⟨F, 0, none⟩) N N, .slice (some ⟨V, 0, none⟩) M M, .int .i64 pf, .int .i64 f, .int .i64 b] (wb.drewN q) fun e w' => ∃ m, e = .returned (.int .u32 z) ∧ w' = wb.drewN m) :=
    fun q f b z h1 h2 h3 => start_at (unhide HROW).1 (unhide HROW).2.1 hN hM hNN hn hpf hbl hsu (by rw [(unhide HF).2.2]; exact ht1) q f b z h1 h2 h3
  have HBE : Hid (∀ q, Below w.heap.size w (wb.drewN q)) := fun q => below_drewN ((unhide HST).2.trans ((unhide HROW).2.2.1.mono (unhide HST).2.size)) q
  have hLl := (unhide HF).2.2
  have HLL := hide hLl
  obtain ⟨p8, hp8⟩ : ∃ x, 8 * pf = x := ⟨_, rfl⟩
  have g1 : decide ((pf : Int) < 1) = false := by rw [decide_eq_false_iff_not]; omega
  have g2 : (8 : Int) * (pf : Int) = (p8 : Int) := by omega
  have g3 : decide ((p8 : Int) < (bounds : Int)) = false := by rw [decide_eq_false_iff_not]; omega
  have hp8l : p8 ≤ 1100000000 := by omega
  have hb0 : 0 < bounds := by omega
  clear hLl hp8 HROW HST
  obtain ⟨q0, hq0⟩ : ∃ q, wb = wb.drewN q := ⟨0, rfl⟩
  by_cases hn0 : n = 0
  · have hn0' : ((n : Int) == 0) = true := by rw [beq_iff_eq]; omega
    clear hq0 hn0
    go_wp2_with fail
    go_ret
    exact ⟨rfl, unhide HBE 0⟩
  have hn0' : ((n : Int) == 0) = false := by rw [beq_eq_false_iff_ne]; omega
  clear hq0
  have HS0 : Hid (Calls Try.prog 19 #[.slice (some ⟨F, 0, none⟩) N N, .slice (some ⟨V, 0, none⟩) M M, .int .i64 pf, .int .i64 0, .int .i64 0] wb fun e w' => ∃ m, e = .returned (.int .u32 0) ∧ w' = wb.drewN m) :=
    unhide HSA 0 0 0 0 (by omega) hb0 (by rw [C_zero]; rfl)
  go_wp2_with fail
  refine (unhide HS0).mono ?_
  rintro e wc ⟨m, rfl, rfl⟩
  go_wp2_with fail
  go_loopw [15] (fun bv wr => ∃ (b q : Nat), b < bounds ∧ bv = .int .i64 b ∧ wr = wb.drewN q) (fun bv _ => bounds - (intOf bv).toNat)
  case atStart => exact ⟨0, m, hb0, rfl, rfl⟩
  case round =>
  obtain ⟨b, q, hbb, rfl, rfl⟩ := hrel
  obtain ⟨b1, hb1⟩ : ∃ x, b + 1 = x := ⟨_, rfl⟩
  have k1 : (b : Int) + 1 = (b1 : Int) := by omega
  have HB1 := hide hb1
  have hb1l : b1 ≤ bounds := by omega
  clear HS0
  by_cases hlt : b1 < bounds
  · obtain ⟨p1, hp1⟩ : ∃ p, b * s = p := ⟨_, rfl⟩
    have hp1l : p1 + 1 ≤ ids := by
      have h1 : (b + 1) * s ≤ x3 * s := Nat.mul_le_mul_right s (by omega)
      rw [Nat.add_mul, Nat.one_mul, hp1] at h1
      have := (unhide HX).1
      omega
    obtain ⟨r0, hr0⟩ : ∃ r, ids - p1 = r := ⟨_, rfl⟩
    obtain ⟨rm, hrm⟩ : ∃ r, min r0 s = r := ⟨_, rfl⟩
    have k2 : (b : Int) * (s : Int) = (p1 : Int) := by rw [← hp1]; simp
    have k3 : (ids : Int) - (p1 : Int) = (r0 : Int) := by omega
    have hr0l : r0 ≤ 1048576 := by omega
    have hrml : rm ≤ 4096 := by omega
    have HP := hide (And.intro hp1 (And.intro hr0 hrm))
    clear hp1 hr0 hrm hb1
    go_upto_if 170 with fail
    go_cut [16] (fun rv w1 => rv = .int .i64 rm ∧ w1 = wb.drewN q)
    case first =>
      by_cases hgt : (s : Int) < (r0 : Int)
      · go_wp2_with fail
        go_meet
        exact ⟨by have := unhide HP; go_num, rfl⟩
      · go_wp2_with fail
        go_meet
        exact ⟨by have := unhide HP; go_num, rfl⟩
    case rest =>
    obtain ⟨rfl, rfl⟩ := hcut
    go_wp2_with fail
    obtain ⟨L', hL'⟩ : ∃ x, (L.drop p1).take rm = x := ⟨_, rfl⟩
    have HCS : Hid (∀ f, C L s f b = cnt L f p1 ∧ C L s f b1 = cnt L f p1 + L'.count (f : Int)) := fun f => by
      obtain ⟨h1, h2, h3⟩ := unhide HP
      have := C_step L s f b p1 rm h1 (by rw [unhide HLL]; omega) (by rw [unhide HLL, h2, h3])
      rw [unhide HB1, hL'] at this
      exact this
    have HBL : Hid (∀ f, bas L' f ≤ rm) := fun f => by rw [← hL']; exact bas_take L p1 rm f
    clear hL'
    go_loopw [17, 18] (fun sv fv wr => ∃ (f sm q : Nat), f ≤ n ∧ fv = .int .i64 f ∧ sv = .int .i64 sm ∧ sm ≤ rm ∧ Hid (bas L' f = sm) ∧ wr = wb.drewN q) (fun _ fv _ => n - (intOf fv).toNat)
    case atStart => exact ⟨0, 0, q, Nat.zero_le _, rfl, rfl, Nat.zero_le _, rfl, rfl⟩
    case round =>
    obtain ⟨f, sm, q2, hfn, rfl, rfl, hsm, HSM, rfl⟩ := hrel
    by_cases hfl : f < n
    · obtain ⟨z1, hz1⟩ : ∃ z, bas L f + C L s f b = z := ⟨_, rfl⟩
      obtain ⟨z2, hz2⟩ : ∃ z, bas L f + C L s f b1 = z := ⟨_, rfl⟩
      obtain ⟨d, hd⟩ : ∃ d, L'.count (f : Int) = d := ⟨_, rfl⟩
      obtain ⟨s2, hs2⟩ : ∃ x, sm + d = x := ⟨_, rfl⟩
      have hz12 : z1 + d = z2 := by
        obtain ⟨h1, h2⟩ := unhide HCS f
        omega
      have hs2l : s2 ≤ rm := by
        have h1 := unhide HBL (f + 1)
        have h2 : bas L' (f + 1) = bas L' f + L'.count (f : Int) := rfl
        rw [h2, unhide HSM, hd, hs2] at h1
        exact h1
      have hz2l : z2 ≤ 1048576 := by
        have := bas_C_le L s f b1
        rw [unhide HLL] at this
        omega
      have l1 : decide ((z2 : Int) < (z1 : Int)) = false := by rw [decide_eq_false_iff_not]; omega
      have l2 : (z2 : Int) - (z1 : Int) = (d : Int) := by omega
      have l3 : (d : Int) % 4294967296 = (d : Int) := by omega
      have l4 : (rm : Int) % 4294967296 = (rm : Int) := by omega
      have l5 : decide ((rm : Int) < (d : Int)) = false := by rw [decide_eq_false_iff_not]; omega
      have l6 : (sm : Int) + (d : Int) = (s2 : Int) := by omega
      have l7 : decide ((rm : Int) < (s2 : Int)) = false := by rw [decide_eq_false_iff_not]; omega
      have HA := hide (unhide HSA q2 f b z1 hfl hbb hz1)
      have HB := hide (fun q => unhide HSA q f b1 z2 hfl hlt hz2)
      have HD := hide (And.intro hd hs2)
      clear hz1 hz2 hd hs2 hz12
      go_wp2_with fail
      refine (unhide HA).mono ?_
      rintro e wc ⟨m1, rfl, rfl⟩
      go_wp2_with fail
      refine (unhide HB _).mono ?_
      rintro e wc ⟨m2, rfl, rfl⟩
      go_wp2_with fail
      go_roundw
      case rel => exact ⟨f + 1, s2, m2, by omega, by go_num, rfl, hs2l, by show bas L' f + L'.count (f : Int) = s2; rw [unhide HSM, (unhide HD).1, (unhide HD).2], rfl⟩
      case measure => simp [intOf]; omega
    · go_wp2_with fail
      go_roundw
      case rel => exact ⟨b1, q2, by omega, rfl, rfl⟩
      case measure => simp [intOf]; have := unhide HB1; omega
  · have k4 : (bounds : Int) - 1 = (x3 : Int) := by omega
    have hx3b : x3 < bounds := by omega
    have hcl : ∀ f, C L s f x3 = L.count (f : Int) := fun f => C_last L s f x3 (by rw [unhide HLL]; exact (unhide HX).2)
    have HC := hide hcl
    clear hcl
    go_wp2_with fail
    go_loopw [21] (fun fv wr => ∃ (f q : Nat), f < n ∧ fv = .int .i64 f ∧ wr = wb.drewN q) (fun fv _ => n - (intOf fv).toNat)
    case atStart => exact ⟨0, q, by omega, rfl, rfl⟩
    case round =>
    obtain ⟨f, q2, hfn, rfl, rfl⟩ := hrel
    obtain ⟨f1, hf1⟩ : ∃ x, f + 1 = x := ⟨_, rfl⟩
    have k5 : (f : Int) + 1 = (f1 : Int) := by omega
    obtain ⟨z, hz⟩ : ∃ z, bas L f + C L s f x3 = z := ⟨_, rfl⟩
    have hz3 : bas L f1 = z := by
      rw [← hz, unhide HC f, ← hf1]
      rfl
    have hzl : z ≤ ids := by
      rw [← hz3, ← unhide HLL]
      exact bas_le L f1
    have HA := hide (unhide HSA q2 f x3 z hfn hx3b hz)
    have HF1 := hide hf1
    by_cases hfl : f1 < n
    · have HB : Hid (∀ q, Calls Try.prog 19 #[.slice (some ⟨F, 0, none⟩) N N, .slice (some ⟨V, 0, none⟩) M M, .int .i64 pf, .int .i64 f1, .int .i64 0] (wb.drewN q) fun e w' => ∃ m, e = .returned (.int .u32 z) ∧ w' = wb.drewN m) :=
        fun q => unhide HSA q f1 0 z hfl hb0 (by rw [C_zero]; exact hz3)
      clear hz hz3 hf1
      go_wp2_with fail
      refine (unhide HA).mono ?_
      rintro e wc ⟨m1, rfl, rfl⟩
      go_wp2_with fail
      refine (unhide HB _).mono ?_
      rintro e wc ⟨m2, rfl, rfl⟩
      go_wp2_with fail
      go_roundw
      case rel => exact ⟨f1, m2, hfl, rfl, rfl⟩
      case measure => simp [intOf]; have := unhide HF1; omega
    · have k6 : (n : Int) - 1 = (f : Int) := by omega
      have k7 : (ids : Int) % 4294967296 = (ids : Int) := by omega
      have k8 : decide ((ids : Int) < (z : Int)) = false := by rw [decide_eq_false_iff_not]; omega
      clear hz hz3 hf1
      go_wp2_with fail
      refine (unhide HA).mono ?_
      rintro e wc ⟨m1, rfl, rfl⟩
      go_wp2_with fail
      go_ret
      exact ⟨rfl, unhide HBE m1⟩
end Go.Proofs.Qxb6603163a
