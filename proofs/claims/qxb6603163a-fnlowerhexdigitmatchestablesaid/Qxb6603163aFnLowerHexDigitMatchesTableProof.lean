/- The proof of Rows.FnLowerHexDigitMatchesTableSaid: the frame is the guide's template, written by program; the walks are ours. -/
import Derived.Test.Qxb6603163aRows
import Derived.WalkKit
import Derived.ProofKit
import Derived.OpenShut
import Derived.ShutString
namespace Go.Proofs.Qxb6603163a.fnLowerHexDigitMatchesTable
open Go.ChangeShapes Go.WideShapes Go.ChangeAt Go.RowKit
open Go.ChangeMaps (open_string shut_string)
set_option linter.unusedVariables false      -- a walk need not use every 'w<i>' (that an integer argument fits its kind)

theorem own : ownKnob Try.prog.godebug = none := by kernel_rfl

theorem digitA (c : Int) (w : World) (h1 : 48 ≤ c) (h2 : c ≤ 57) :
    Calls Try.prog 8 #[.int .u8 c] w fun e w' => e = .returned (.tuple #[.int .u8 (c - 48), .bool true]) ∧ w' = w := by
  go_enter Try.func8, Try.ntmps8
  go_wp2
  go_ret2
  exact ⟨rfl, rfl⟩
theorem digitB (c : Int) (w : World) (h1 : 97 ≤ c) (h2 : c ≤ 102) :
    Calls Try.prog 8 #[.int .u8 c] w fun e w' => e = .returned (.tuple #[.int .u8 (c - 97 + 10), .bool true]) ∧ w' = w := by
  have h3 : decide (c ≤ 57) = false := by simp; omega
  go_enter Try.func8, Try.ntmps8
  go_wp2
  go_ret2
  exact ⟨rfl, rfl⟩
theorem digitC (c : Int) (w : World) (h0 : 0 ≤ c) (h : c < 48 ∨ (57 < c ∧ c < 97) ∨ 102 < c) :
    Calls Try.prog 8 #[.int .u8 c] w fun e w' => e = .returned (.tuple #[.int .u8 0, .bool false]) ∧ w' = w := by
  rcases h with h | ⟨h, h'⟩ | h
  · have g1 : decide (48 ≤ c) = false := by simp; omega
    have g2 : decide (97 ≤ c) = false := by simp; omega
    go_enter Try.func8, Try.ntmps8
    go_wp2
    go_ret2
    exact ⟨rfl, rfl⟩
  · have g1 : decide (c ≤ 57) = false := by simp; omega
    have g2 : decide (97 ≤ c) = false := by simp; omega
    go_enter Try.func8, Try.ntmps8
    go_wp2
    go_ret2
    exact ⟨rfl, rfl⟩
  · have g1 : decide (c ≤ 57) = false := by simp; omega
    have g2 : decide (c ≤ 102) = false := by simp; omega
    go_enter Try.func8, Try.ntmps8
    go_wp2
    go_ret2
    exact ⟨rfl, rfl⟩

theorem hide {p : Prop} (h : p) : Hid p := h
theorem unhide {p : Prop} (h : Hid p) : p := h
/-- The table's byte of place k. -/
theorem tab (k : Nat) (h : k < 16) : ((⟨#[48, 49, 50, 51, 52, 53, 54, 55, 56, 57, 97, 98, 99, 100, 101, 102]⟩ : ByteArray)[k]'h).toNat = if k < 10 then 48 + k else 87 + k := by
  match k, h with
  | 0, _ => rfl | 1, _ => rfl | 2, _ => rfl | 3, _ => rfl | 4, _ => rfl | 5, _ => rfl | 6, _ => rfl | 7, _ => rfl
  | 8, _ => rfl | 9, _ => rfl | 10, _ => rfl | 11, _ => rfl | 12, _ => rfl | 13, _ => rfl | 14, _ => rfl | 15, _ => rfl
  | k + 16, h => exact absurd h (by omega)
theorem ret_true {b : Bool} (h : b = true) : Ending.returned (.bool b) = .returned (.bool true) := by rw [h]

theorem walkA (a0 : Int) (w : World) (h1 : 48 ≤ a0) (h2 : a0 ≤ 57) :
    Calls Try.prog 3 #[.int .u8 a0] w fun e w' => e = .returned (.bool true) ∧ Grown w w' := by
  go_enter Try.func3, Try.ntmps3
  go_wp2_with (go_at_call 8; refine (digitA _ _ h1 h2).mono ?_; rintro e w' ⟨rfl, rfl⟩)
  go_loop [5] (fun i => ∃ k : Nat, (k : Int) ≤ a0 - 48 ∧ i = .int .i64 k) (fun i => 16 - (intOf i).toNat)
  case atStart => exact ⟨0, by omega, rfl⟩
  case round =>
    obtain ⟨k, hk, rfl⟩ := hrel
    have ht := tab k (by omega)
    rw [if_pos (by omega)] at ht
    have HT := hide ht
    clear ht
    go_wp2
    · have h3 : (((⟨#[48, 49, 50, 51, 52, 53, 54, 55, 56, 57, 97, 98, 99, 100, 101, 102]⟩ : ByteArray)[k]'(by show k < 16; omega)).toNat == a0) = true := by assumption
      have h4 := unhide HT
      go_ret
      refine ⟨ret_true ?_, Grown.refl _⟩
      rw [beq_iff_eq] at h3 ⊢
      omega
    · have h3 : (((⟨#[48, 49, 50, 51, 52, 53, 54, 55, 56, 57, 97, 98, 99, 100, 101, 102]⟩ : ByteArray)[k]'(by show k < 16; omega)).toNat == a0) = false := by assumption
      have h4 := unhide HT
      rw [beq_eq_false_iff_ne] at h3
      go_round
      case rel => exact ⟨k + 1, by omega, by go_num⟩
      case measure => simp [intOf]; omega

theorem walkB (a0 : Int) (w : World) (h1 : 97 ≤ a0) (h2 : a0 ≤ 102) :
    Calls Try.prog 3 #[.int .u8 a0] w fun e w' => e = .returned (.bool true) ∧ Grown w w' := by
  go_enter Try.func3, Try.ntmps3
  go_wp2_with (go_at_call 8; refine (digitB _ _ h1 h2).mono ?_; rintro e w' ⟨rfl, rfl⟩)
  go_loop [5] (fun i => ∃ k : Nat, (k : Int) ≤ a0 - 87 ∧ i = .int .i64 k) (fun i => 16 - (intOf i).toNat)
  case atStart => exact ⟨0, by omega, rfl⟩
  case round =>
    obtain ⟨k, hk, rfl⟩ := hrel
    have HT := hide (tab k (by omega))
    go_wp2
    · have h3 : (((⟨#[48, 49, 50, 51, 52, 53, 54, 55, 56, 57, 97, 98, 99, 100, 101, 102]⟩ : ByteArray)[k]'(by show k < 16; omega)).toNat == a0) = true := by assumption
      have h4 := unhide HT
      go_ret
      refine ⟨ret_true ?_, Grown.refl _⟩
      rw [beq_iff_eq] at h3 ⊢
      split at h4 <;> omega
    · have h3 : (((⟨#[48, 49, 50, 51, 52, 53, 54, 55, 56, 57, 97, 98, 99, 100, 101, 102]⟩ : ByteArray)[k]'(by show k < 16; omega)).toNat == a0) = false := by assumption
      have h4 := unhide HT
      rw [beq_eq_false_iff_ne] at h3
      have h5 : (k : Int) + 1 ≤ a0 - 87 := by split at h4 <;> omega
      go_round
      case rel => exact ⟨k + 1, by omega, by go_num⟩
      case measure => simp [intOf]; omega

theorem walkC (a0 : Int) (w : World) (h0 : 0 ≤ a0) (h : a0 < 48 ∨ (57 < a0 ∧ a0 < 97) ∨ 102 < a0) :
    Calls Try.prog 3 #[.int .u8 a0] w fun e w' => e = .returned (.bool true) ∧ Grown w w' := by
  have H := hide h
  clear h
  go_enter Try.func3, Try.ntmps3
  go_wp2_with (go_at_call 8; refine (digitC _ _ h0 (unhide H)).mono ?_; rintro e w' ⟨rfl, rfl⟩)
  go_loop [5] (fun i => ∃ k : Nat, (k : Int) ≤ 16 ∧ i = .int .i64 k) (fun i => 16 - (intOf i).toNat)
  case atStart => exact ⟨0, by omega, rfl⟩
  case round =>
    obtain ⟨k, hk, rfl⟩ := hrel
    by_cases hlt : (k : Int) < 16
    · have HT := hide (tab k (by omega))
      go_wp2
      · have h3 : (((⟨#[48, 49, 50, 51, 52, 53, 54, 55, 56, 57, 97, 98, 99, 100, 101, 102]⟩ : ByteArray)[k]'(by show k < 16; omega)).toNat == a0) = true := by assumption
        have h4 := unhide HT
        have h5 := unhide H
        exfalso
        rw [beq_iff_eq] at h3
        split at h4 <;> omega
      · go_round
        case rel => exact ⟨k + 1, by omega, by go_num⟩
        case measure => simp [intOf]; omega
    · go_wp2
      go_ret
      exact ⟨rfl, Grown.refl _⟩

theorem walk (a0 : Int) (w0 : (Lit.int .u8 a0).wf = true) (w : World) :
    Calls Try.prog 3 #[.int .u8 a0] w fun e w' => e = .returned (.bool true) ∧ Grown w w' := by
  have hb := bounds_u8 w0
  by_cases h1 : 48 ≤ a0 ∧ a0 ≤ 57
  · exact walkA a0 w h1.1 h1.2
  · by_cases h2 : 97 ≤ a0 ∧ a0 ≤ 102
    · exact walkB a0 w h2.1 h2.2
    · exact walkC a0 w (by omega) (by omega)

/-! ### THE ROW's STEP: WRITTEN OUT: LEAVE IT -/
set_option maxRecDepth 100000 in
theorem lifted (os : Os) (started : os.Started) (H : Type) (enc : TypeId × Value → H) :
    ReturnsInHanded {} Try.checked os 3 .any (Rows.fnLowerHexDigitMatchesTableSpec.pre6 enc Try.prog Try.f3 Rows.fnLowerHexDigitMatchesTableRow.domain false) (Rows.fnLowerHexDigitMatchesTableSpec.post enc Try.prog Try.f3 false true false false) := by
  refine returnsInHanded_of_change (C := Try.checked) own started (by kernel_rfl) Try.func3
    (ChangeSpec.witness6 (enc := enc) (C := Try.checked) false ⟨#[], #[.int .u8 0], []⟩ 8 (by kernel_rfl) (by kernel_rfl) (by kernel_rfl) (by kernel_rfl)) ?_
  intro W base args ds gs before hval0 hW hcnd _
  have hval : ∀ (j : Nat) t v, Try.f3.params[j]? = some t → args[j]? = some v → Value.okWide Try.prog W .any base t v := hval0
  have hW' := hW
  obtain ⟨p, q, hA0, hV, rfl, hfz, hnd⟩ := hW
  have hA : DataW.TrodAll enc Try.prog W 0 (fun _ => true) true Try.f3.params.toList args.toList ds p := hA0
  rw [Try.params3] at hA hval
  obtain ⟨v0, vs0, d0, ds0, p0, q0, hargs, rfl, rfl, h0, r0⟩ := trodAll_cons hA
  obtain ⟨rfl, rfl, rfl⟩ := trodAll_nil r0
  obtain rfl : args = #[v0] := by cases args; simp_all
  obtain ⟨rfl, rfl⟩ := trodVars_none hV
  obtain ⟨a0, rfl, rfl, rfl, w0⟩ := open_int Try.underlying5 (hval 0 5 v0 rfl rfl) h0
  clear hA0 hval0
  simp only [List.append_nil] at hW'
  refine (walk a0 w0 W).mono fun e W' ⟨he, hg⟩ => ?_
  subst he
  exact ⟨_, rfl, post_of_same (pa := []) (pv := []) hW' (fun _ _ _ => (trodAll_cons_mk (shut_bool Try.underlying4 _) trodAll_mk0)) (fun sp _ => (trodAll_cons_mk (shut_int Try.underlying5 w0) trodAll_mk0)) (fun _ _ => rfl) rfl
    (hg.frame _) hg.2.1 (ok_one (by kernel_rfl) rfl (okWide_bool_mk Try.underlying4 _))⟩

theorem over : Rows.fnLowerHexDigitMatchesTableRow.holds Try.pinned (OpenSpec.ofChange Rows.fnLowerHexDigitMatchesTableSpec) :=
  OpenClaim.holds_of_wide 3 Try.f3 rfl rfl rfl rfl rfl rfl rfl ⟨rfl, rfl, rfl, rfl, rfl⟩ rfl rfl rfl rfl rfl (by kernel_rfl) Try.func3 (by kernel_rfl)
    (of_decide_eq_true (by kernel_rfl)) (by unfold Func.isWrapper; first | (rw [if_pos (by decide +kernel)]; kernel_rfl) | (rw [if_neg (by decide +kernel)]; exact ⟨rfl, rfl⟩))
    (fun os started H enc _ => lifted os started H enc)

/-- ████ THE STATEMENT ████ -/
theorem proved : Rows.FnLowerHexDigitMatchesTableSaid :=
  over
end Go.Proofs.Qxb6603163a.fnLowerHexDigitMatchesTable
