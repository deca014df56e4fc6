/- sqltext.Like: the walk with one remembered star answers as the tokens' matcher. -/
import Derived.Test.Qxb6603229aBase
namespace Go.Proofs.Qxb6603229a
open Go.ChangeShapes Go.WideShapes Go.ChangeAt Go.RowKit

/-- The remembered star, as the two slots hold it. -/
def stOf (sp : Int) (sr : Nat) : Option (Nat × Nat) := if sp < 0 then none else some (sp.toNat, sr)
theorem stOf_nat (q sr : Nat) : stOf q sr = some (q, sr) := by
  unfold stOf
  rw [if_neg (by omega)]
  simp
def lmu (m n : Nat) (pi ri sp sr : Int) : Nat := mu (if sp < 0 then n + 1 else n - sr.toNat) (n - ri.toNat) (m - pi.toNat) n m
theorem lmu_run {m n pi ri sr : Nat} {sp : Int} (hp : pi < m) (hr : ri ≤ n) (hs : sr ≤ ri) : lmu m n ((pi : Int) + 1) ri ((pi : Int) + 1) ri < lmu m n pi ri sp sr := by
  unfold lmu
  rw [if_neg (by omega)]
  by_cases h : (if sp < 0 then n + 1 else n - (sr : Int).toNat) = n - (ri : Int).toNat
  · rw [h]
    exact mu_c (by omega)
  · refine mu_a ?_ (by omega) (by omega)
    split at h <;> split <;> omega
theorem lmu_step {m n pi ri : Nat} {pi' sp sr : Int} (hr : ri < n) (_h : 0 ≤ pi') : lmu m n pi' ((ri : Int) + 1) sp sr < lmu m n pi ri sp sr := by
  unfold lmu
  exact mu_b (by omega) (by omega)
theorem lmu_miss {m n : Nat} {pi ri : Int} {q sr : Nat} (_hq : 0 ≤ q) (hs : sr < n) : lmu m n q ((sr : Int) + 1) q ((sr : Int) + 1) < lmu m n pi ri q sr := by
  unfold lmu
  rw [if_neg (by omega), if_neg (by omega)]
  exact mu_a (by omega) (by omega) (by omega)
theorem inv_miss {p r : List Int} {pi ri q sr : Nat} (h : LInv p r pi ri (stOf q sr)) (hri : ri < r.length) (hm : mt (toks (p.drop pi)) (r.drop ri) = false) : Hid (LInv p r q (sr + 1) (stOf q (sr + 1))) := by
  rw [stOf_nat] at h ⊢
  exact h.miss hri hm
theorem inv_run {p r : List Int} {pi ri : Nat} {st : Option (Nat × Nat)} (h : LInv p r pi ri st) (hc : p[pi]? = some 37) : Hid (LInv p r (pi + 1) ri (stOf ((pi : Int) + 1) ri)) := by
  have e : stOf ((pi : Int) + 1) ri = some (pi + 1, ri) := stOf_nat (pi + 1) ri
  rw [e]
  exact h.run (toks_tok1 hc (.inl (by decide)))
theorem two_ne0 (d : Int) : ((2 : Int), d).1 ≠ 0 := by simp
theorem two_ne1 (d : Int) : ((2 : Int), d).1 ≠ 1 := by simp
theorem miss_end {p r : List Int} {pi ri : Nat} (hp : ¬ pi < p.length) (hr : ri < r.length) : mt (toks (p.drop pi)) (r.drop ri) = false :=
  mt_miss (.inl ⟨toks_end (by omega), by intro h; have := congrArg List.length h; simp at this; omega⟩)
theorem miss_tok {p r : List Int} {pi ri pi' : Nat} {d x : Int} (ht : toks (p.drop pi) = (2, d) :: toks (p.drop pi')) (hx : r[ri]? = some x) (hne : d ≠ x) : mt (toks (p.drop pi)) (r.drop ri) = false :=
  mt_miss (.inr ⟨(2, d), _, x, _, ht, drop_cons hx, two_ne0 d, two_ne1 d, fun e => hne e.symm⟩)
theorem tok_other {p : List Int} {pi : Nat} {c : Int} (hc : p[pi]? = some c) (h92 : ¬ (c = 92 ∧ pi + 1 < p.length)) (h37 : c ≠ 37) (h95 : c ≠ 95) : toks (p.drop pi) = (2, c) :: toks (p.drop (pi + 1)) := by
  rw [toks_tok1 hc (by by_cases h : c = 92; right; omega; left; exact h)]
  unfold tok1
  rw [if_neg h37, if_neg h95]

theorem ret_eq {b b' : Bool} (h : b' = b) : Ending.returned (.bool b) = .returned (.bool b') := by rw [h]

def LikePost (p r : List Int) (w : World) (e : Ending) (w' : World) : Prop := e = .returned (.bool (mt (toks p) r)) ∧ Below w.heap.size w w'

set_option maxRecDepth 100000 in
set_option maxHeartbeats 4000000 in
theorem like_any (a s : ByteArray) (ha : a.size ≤ 1048576) (hs : s.size ≤ 1048576) (w : World) :
    Calls Try.prog 9 #[.string a, .string s] w fun e w' => LikePost (rn a) (rn s) w e w' := by
  have hc1 := conv_runes a ha
  have hc2 := conv_runes s hs
  have hm := rn_length a
  have hn := rn_length s
  obtain ⟨p, hp⟩ : ∃ p, rn a = p := ⟨_, rfl⟩
  obtain ⟨r, hr⟩ : ∃ r, rn s = r := ⟨_, rfl⟩
  rw [hp] at hc1 hm
  rw [hr] at hc2 hn
  rw [hp, hr]
  clear hp hr
  have hsz := after_size w p
  go_enter Try.func9, Try.ntmps9
  go_upto_region 1 with fail
  go_cut [5, 6] (fun x y w1 => ∃ c1 c2, x = .slice (some ⟨w.heap.size, 0, none⟩) p.length c1 ∧ y = .slice (some ⟨w.heap.size + 1, 0, none⟩) r.length c2 ∧ Hid (Runes w1 w.heap.size p ∧ Runes w1 (w.heap.size + 1) r ∧ Below w.heap.size w w1))
  case first =>
    go_wp2_with fail
    go_meet
    exact ⟨_, _, rfl, rfl, two_runes w p r⟩
  case rest =>
  obtain ⟨c1, c2, rfl, rfl, HW⟩ := hcut
  clear hc1 hc2 hsz
  go_wp2_with fail
  go_loop [7, 8, 9, 10] (fun pv rv spv srv => ∃ (pi ri sr : Nat) (sp : Int), pi ≤ p.length ∧ ri ≤ r.length ∧ sr ≤ ri ∧ -1 ≤ sp ∧ sp ≤ p.length ∧ pv = .int .i64 pi ∧ rv = .int .i64 ri ∧ spv = .int .i64 sp ∧ srv = .int .i64 sr ∧ Hid (LInv p r pi ri (stOf sp sr)))
    (fun pv rv spv srv => lmu p.length r.length (intOf pv) (intOf rv) (intOf spv) (intOf srv))
  case atStart => exact ⟨0, 0, 0, -1, Nat.zero_le _, Nat.zero_le _, Nat.le_refl _, by omega, by omega, rfl, rfl, rfl, rfl, LInv.start p r⟩
  case round =>
  obtain ⟨pi, ri, sr, sp, hpi0, hri0, hsr0, hsp0, hsp1, rfl, rfl, rfl, rfl, HI⟩ := hrel
  by_cases hri : ri < r.length
  · obtain ⟨x, hx⟩ : ∃ x, r[ri]? = some x := ⟨_, List.getElem?_eq_getElem hri⟩
    have hcx := (unhide HW).2.1.2 ri x hx
    have HX := hide hx
    clear hx
    by_cases hpi : pi < p.length
    · obtain ⟨c, hc⟩ : ∃ c, p[pi]? = some c := ⟨_, List.getElem?_eq_getElem hpi⟩
      have hcc := (unhide HW).1.2 pi c hc
      by_cases hesc : c = 92 ∧ pi + 1 < p.length
      · obtain ⟨rfl, hp1⟩ := hesc
        obtain ⟨d, hd⟩ : ∃ d, p[pi + 1]? = some d := ⟨_, List.getElem?_eq_getElem hp1⟩
        have hcd := (unhide HW).1.2 (pi + 1) d hd
        have HT := hide (toks_esc hc hd)
        clear hc hd
        by_cases hdx : d = x
        · have hb : (d == x) = true := by rw [beq_iff_eq]; exact hdx
          have HDX := hide hdx
          clear hdx
          go_wp2
          all_goals
            go_round
            case rel => exact ⟨pi + 2, ri + 1, sr, sp, by omega, by omega, by omega, by omega, by omega, by go_num, by go_num, rfl, rfl, (unhide HI).step (unhide HT) (by simp) (unhide HX) (.inr (unhide HDX).symm)⟩
            case measure => simp only [intOf]; exact lmu_step hri (by omega)
        · have hb : (d == x) = false := by rw [beq_eq_false_iff_ne]; exact hdx
          have hmm : mt (toks (p.drop pi)) (r.drop ri) = false := miss_tok (unhide HT) (unhide HX) hdx
          have HMM := hide hmm
          clear hmm
          by_cases hsp : sp < 0
          · have hf : mt (toks p) r = false := by
              have h := unhide HI
              unfold stOf at h
              rw [if_pos hsp] at h
              exact h.miss_none (unhide HMM)
            have HF := hide hf
            clear hf
            go_wp2
            all_goals go_ret
            all_goals exact ⟨ret_eq (unhide HF), (unhide HW).2.2⟩
          · obtain ⟨q, rfl⟩ : ∃ q : Nat, sp = q := ⟨sp.toNat, by omega⟩
            have hsr : sr < r.length := by omega
            go_wp2
            all_goals
              go_round
              case rel => exact ⟨q, sr + 1, sr + 1, q, by omega, by omega, Nat.le_refl _, by omega, by omega, by go_num, by go_num, rfl, by go_num, inv_miss (unhide HI) hri (unhide HMM)⟩
              case measure => simp only [intOf]; exact lmu_miss (by omega) hsr
      · by_cases h37 : c = 37
        · subst h37
          have HC := hide hc
          clear hc
          go_wp2
          go_round
          case rel => exact ⟨pi + 1, ri, ri, (pi : Int) + 1, by omega, by omega, Nat.le_refl _, by omega, by omega, by go_num, rfl, rfl, rfl, inv_run (unhide HI) (unhide HC)⟩
          case measure => simp only [intOf]; exact lmu_run hpi (by omega) hsr0
        · by_cases h95 : c = 95
          · subst h95
            have HT : Hid (toks (p.drop pi) = (1, 0) :: toks (p.drop (pi + 1))) := toks_tok1 hc (.inl (by decide))
            clear hc
            go_wp2
            all_goals
              go_round
              case rel => exact ⟨pi + 1, ri + 1, sr, sp, by omega, by omega, by omega, by omega, by omega, by go_num, by go_num, rfl, rfl, (unhide HI).step (unhide HT) (by simp) (unhide HX) (.inl rfl)⟩
              case measure => simp only [intOf]; exact lmu_step hri (by omega)
          · have HT := hide (tok_other hc hesc h37 h95)
            have b37 : (c == 37) = false := by rw [beq_eq_false_iff_ne]; exact h37
            have b95 : (c == 95) = false := by rw [beq_eq_false_iff_ne]; exact h95
            clear hc h37 h95
            by_cases h92 : c = 92
            · subst h92
              have hp1 : ¬ (pi : Int) + 1 < (p.length : Int) := by omega
              have hp2 : decide ((pi : Int) + 1 < (p.length : Int)) = false := by simpa using hp1
              clear b37 b95 hesc
              by_cases hdx : (92 : Int) = x
              · have hb : ((92 : Int) == x) = true := by rw [beq_iff_eq]; exact hdx
                have HDX := hide hdx
                clear hdx
                go_wp2
                all_goals
                  go_round
                  case rel => exact ⟨pi + 1, ri + 1, sr, sp, by omega, by omega, by omega, by omega, by omega, by go_num, by go_num, rfl, rfl, (unhide HI).step (unhide HT) (by simp) (unhide HX) (.inr (unhide HDX).symm)⟩
                  case measure => simp only [intOf]; exact lmu_step hri (by omega)
              · have hb : ((92 : Int) == x) = false := by rw [beq_eq_false_iff_ne]; exact hdx
                have hmm : mt (toks (p.drop pi)) (r.drop ri) = false := miss_tok (unhide HT) (unhide HX) hdx
                have HMM := hide hmm
                clear hmm
                by_cases hsp : sp < 0
                · have hf : mt (toks p) r = false := by
                    have h := unhide HI
                    unfold stOf at h
                    rw [if_pos hsp] at h
                    exact h.miss_none (unhide HMM)
                  have HF := hide hf
                  clear hf
                  go_wp2
                  all_goals go_ret
                  all_goals exact ⟨ret_eq (unhide HF), (unhide HW).2.2⟩
                · obtain ⟨q, rfl⟩ : ∃ q : Nat, sp = q := ⟨sp.toNat, by omega⟩
                  have hsr : sr < r.length := by omega
                  go_wp2
                  all_goals
                    go_round
                    case rel => exact ⟨q, sr + 1, sr + 1, q, by omega, by omega, Nat.le_refl _, by omega, by omega, by go_num, by go_num, rfl, by go_num, inv_miss (unhide HI) hri (unhide HMM)⟩
                    case measure => simp only [intOf]; exact lmu_miss (by omega) hsr
            · have b92 : (c == 92) = false := by rw [beq_eq_false_iff_ne]; exact h92
              clear h92 hesc
              by_cases hdx : c = x
              · have hb : (c == x) = true := by rw [beq_iff_eq]; exact hdx
                have HDX := hide hdx
                clear hdx
                go_wp2
                all_goals
                  go_round
                  case rel => exact ⟨pi + 1, ri + 1, sr, sp, by omega, by omega, by omega, by omega, by omega, by go_num, by go_num, rfl, rfl, (unhide HI).step (unhide HT) (by simp) (unhide HX) (.inr (unhide HDX).symm)⟩
                  case measure => simp only [intOf]; exact lmu_step hri (by omega)
              · have hb : (c == x) = false := by rw [beq_eq_false_iff_ne]; exact hdx
                have hmm : mt (toks (p.drop pi)) (r.drop ri) = false := miss_tok (unhide HT) (unhide HX) hdx
                have HMM := hide hmm
                clear hmm
                by_cases hsp : sp < 0
                · have hf : mt (toks p) r = false := by
                    have h := unhide HI
                    unfold stOf at h
                    rw [if_pos hsp] at h
                    exact h.miss_none (unhide HMM)
                  have HF := hide hf
                  clear hf
                  go_wp2
                  all_goals go_ret
                  all_goals exact ⟨ret_eq (unhide HF), (unhide HW).2.2⟩
                · obtain ⟨q, rfl⟩ : ∃ q : Nat, sp = q := ⟨sp.toNat, by omega⟩
                  have hsr : sr < r.length := by omega
                  go_wp2
                  all_goals
                    go_round
                    case rel => exact ⟨q, sr + 1, sr + 1, q, by omega, by omega, Nat.le_refl _, by omega, by omega, by go_num, by go_num, rfl, by go_num, inv_miss (unhide HI) hri (unhide HMM)⟩
                    case measure => simp only [intOf]; exact lmu_miss (by omega) hsr
    · skip
      have hmm : mt (toks (p.drop pi)) (r.drop ri) = false := miss_end hpi hri
      have HMM := hide hmm
      clear hmm
      by_cases hsp : sp < 0
      · have hf : mt (toks p) r = false := by
          have h := unhide HI
          unfold stOf at h
          rw [if_pos hsp] at h
          exact h.miss_none (unhide HMM)
        have HF := hide hf
        clear hf
        go_wp2
        all_goals go_ret
        all_goals exact ⟨ret_eq (unhide HF), (unhide HW).2.2⟩
      · obtain ⟨q, rfl⟩ : ∃ q : Nat, sp = q := ⟨sp.toNat, by omega⟩
        have hsr : sr < r.length := by omega
        go_wp2
        all_goals
          go_round
          case rel => exact ⟨q, sr + 1, sr + 1, q, by omega, by omega, Nat.le_refl _, by omega, by omega, by go_num, by go_num, rfl, by go_num, inv_miss (unhide HI) hri (unhide HMM)⟩
          case measure => simp only [intOf]; exact lmu_miss (by omega) hsr
  · have HD := hide ((unhide HI).done (by omega))
    clear HI
    go_wp2_with fail
    go_loop [7] (fun pv => ∃ (pi : Nat), pi ≤ p.length ∧ pv = .int .i64 pi ∧ Hid (mt (toks p) r = mt (toks (p.drop pi)) [])) (fun pv => p.length - (intOf pv).toNat)
    case atStart => exact ⟨pi, hpi0, rfl, HD⟩
    case round =>
    obtain ⟨pj, hpj, rfl, HD2⟩ := hrel
    by_cases hlt : pj < p.length
    · obtain ⟨c, hc⟩ : ∃ c, p[pj]? = some c := ⟨_, List.getElem?_eq_getElem hlt⟩
      have hcc := (unhide HW).1.2 pj c hc
      by_cases h37 : c = 37
      · subst h37
        have HC := hide hc
        clear hc
        go_wp2
        go_round
        case rel => exact ⟨pj + 1, by omega, by go_num, (unhide HD2).trans (mt_nil_star (unhide HC))⟩
        case measure => simp [intOf]; omega
      · have b37 : (c == 37) = false := by rw [beq_eq_false_iff_ne]; exact h37
        have HF : Hid (mt (toks p) r = false) := (unhide HD2).trans (mt_nil_other hc h37)
        have hbe : ((pj : Int) == (p.length : Int)) = false := by rw [beq_eq_false_iff_ne]; omega
        clear hc h37
        go_wp2
        go_ret
        exact ⟨ret_eq (unhide HF), (unhide HW).2.2⟩
    · have HF : Hid (mt (toks p) r = true) := (unhide HD2).trans (mt_nil_end (by omega))
      have hbe : ((pj : Int) == (p.length : Int)) = true := by rw [beq_iff_eq]; omega
      have hbl : decide ((pj : Int) < (p.length : Int)) = false := by simp; omega
      go_wp2
      go_ret
      exact ⟨ret_eq (unhide HF), (unhide HW).2.2⟩
end Go.Proofs.Qxb6603229a
