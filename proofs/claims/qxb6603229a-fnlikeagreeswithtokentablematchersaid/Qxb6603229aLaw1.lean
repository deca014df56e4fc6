/- FnLikeAgreesWithTokenTableMatcher: the law, out of the contracts of Like and of the table's matcher. The frame is the guide's template; the walks are ours. -/
import Derived.Test.Qxb6603229aModel
import Derived.OpenShut
import Derived.ShutString
namespace Go.Proofs.Qxb6603229a.fnLikeAgreesWithTokenTableMatcher
open Go.ChangeShapes Go.WideShapes Go.ChangeAt Go.RowKit
open Go.ChangeMaps (open_string shut_string)
set_option linter.unusedVariables false

theorem own : ownKnob Try.prog.godebug = none := by kernel_rfl

def ZzPost (w : World) (e : Ending) (w' : World) : Prop := (e = .returned (.bool true) ∨ e = .returned (.bool false)) ∧ w' = w
theorem zz_any (a s : ByteArray) (ha : a.size ≤ maxLen) (hs : s.size ≤ maxLen) (w : World) : Calls Try.prog 8 #[.string a, .string s] w fun e w' => ZzPost w e w' := by
  unfold maxLen at ha hs
  by_cases h1 : 1048576 < (a.size : Int)
  · go_enter Try.func8, Try.ntmps8
    go_wp2
    go_ret
    exact ⟨.inr rfl, rfl⟩
  by_cases h2 : 1048576 < (s.size : Int)
  · go_enter Try.func8, Try.ntmps8
    go_wp2
    go_ret
    exact ⟨.inr rfl, rfl⟩
  by_cases h3 : 1048576 < (a.size : Int) + (s.size : Int)
  · go_enter Try.func8, Try.ntmps8
    go_wp2
    go_ret
    exact ⟨.inr rfl, rfl⟩
  · go_enter Try.func8, Try.ntmps8
    go_wp2
    go_ret
    exact ⟨.inl rfl, rfl⟩

def LawPost (w : World) (e : Ending) (w' : World) : Prop := e = .returned (.bool true) ∧ Below w.heap.size w w'
theorem ret_same (b : Bool) : Ending.returned (.bool (b == b)) = .returned (.bool true) := by cases b <;> rfl

set_option maxHeartbeats 1000000 in
theorem walk (a s : ByteArray) (ha : a.size ≤ maxLen) (hs : s.size ≤ maxLen) (w : World) : Calls Try.prog 3 #[.string a, .string s] w fun e w' => LawPost w e w' := by
  have hz := zz_any a s ha hs
  unfold maxLen at ha hs
  have HZ := hide hz
  clear hz
  by_cases h1 : 4096 < (a.size : Int)
  · go_enter Try.func3, Try.ntmps3
    go_wp2_with (go_at_call 8; refine (unhide HZ _).mono ?_; rintro e w ⟨hz, rfl⟩; rcases hz with rfl | rfl)
    all_goals go_ret
    all_goals exact ⟨rfl, Below.refl _ _⟩
  have h1' : decide (4096 < (a.size : Int)) = false := by simpa using h1
  by_cases h2 : 4096 < (s.size : Int)
  · go_enter Try.func3, Try.ntmps3
    go_wp2_with (go_at_call 8; refine (unhide HZ _).mono ?_; rintro e w ⟨hz, rfl⟩; rcases hz with rfl | rfl)
    all_goals go_ret
    all_goals exact ⟨rfl, Below.refl _ _⟩
  have hl := like_any a s (by omega) (by omega)
  have hm := model_any a s (by omega) (by omega)
  obtain ⟨b, hb⟩ : ∃ b, mt (toks (rn a)) (rn s) = b := ⟨_, rfl⟩
  have HL : Hid (∀ w, Calls Try.prog 9 #[.string a, .string s] w fun e w' => e = .returned (.bool b) ∧ Below w.heap.size w w') := fun w => by rw [← hb]; exact hl w
  have HM : Hid (∀ w, Calls Try.prog 10 #[.string a, .string s] w fun e w' => e = .returned (.bool b) ∧ Below w.heap.size w w') := fun w => by rw [← hb]; exact hm w
  clear hl hm hb
  go_enter Try.func3, Try.ntmps3
  go_wp2_with (go_at_call 8; refine (unhide HZ _).mono ?_; rintro e w ⟨hz, rfl⟩; rcases hz with rfl | rfl)
  · refine (unhide HL _).mono ?_
    rintro e wa ⟨rfl, hba⟩
    go_wp2_with fail
    refine (unhide HM _).mono ?_
    rintro e wb ⟨rfl, hbb⟩
    go_wp2
    go_ret
    exact ⟨by first | exact ret_same b | rfl, hba.trans (hbb.mono hba.size)⟩
  · go_ret
    exact ⟨rfl, Below.refl _ _⟩

set_option maxRecDepth 100000 in
theorem lifted (os : Os) (started : os.Started) (H : Type) (enc : TypeId × Value → H) :
    ReturnsInHanded {} Try.checked os 3 .any (Rows.fnLikeAgreesWithTokenTableMatcherSpec.pre6 enc Try.prog Try.f3 Rows.fnLikeAgreesWithTokenTableMatcherRow.domain false) (Rows.fnLikeAgreesWithTokenTableMatcherSpec.post enc Try.prog Try.f3 false true false false) := by
  refine returnsInHanded_of_change (C := Try.checked) own started (by kernel_rfl) Try.func3
    (ChangeSpec.witness6 (enc := enc) (C := Try.checked) false ⟨#[], #[.string ByteArray.empty, .string ByteArray.empty], []⟩ 8 (by kernel_rfl) (by kernel_rfl) (by kernel_rfl) (by kernel_rfl)) ?_
  intro W base args ds gs before hval0 hW hcnd _
  have hval : ∀ (j : Nat) t v, Try.f3.params[j]? = some t → args[j]? = some v → Value.okWide Try.prog W .any base t v := hval0
  have hW' := hW
  obtain ⟨p, q, hA0, hV, rfl, hfz, hnd⟩ := hW
  have hA : DataW.TrodAll enc Try.prog W 0 (fun _ => true) true Try.f3.params.toList args.toList ds p := hA0
  rw [Try.params3] at hA hval
  obtain ⟨v0, vs0, d0, ds0, p0, q0, hargs, rfl, rfl, h0, r0⟩ := trodAll_cons hA
  obtain ⟨v1, vs1, d1, ds1, p1, q1, rfl, rfl, rfl, h1, r1⟩ := trodAll_cons r0
  obtain ⟨rfl, rfl, rfl⟩ := trodAll_nil r1
  obtain rfl : args = #[v0, v1] := by cases args; simp_all
  obtain ⟨rfl, rfl⟩ := trodVars_none hV
  obtain ⟨a0, rfl, rfl, rfl, w0⟩ := open_string Try.underlying9 (hval 0 9 v0 rfl rfl) h0
  obtain ⟨a1, rfl, rfl, rfl, w1⟩ := open_string Try.underlying9 (hval 1 9 v1 rfl rfl) h1
  clear hA0 hval0
  refine (walk a0 a1 w0 w1 W).mono fun e W' ⟨he, bel⟩ => ?_
  subst he
  exact ⟨_, rfl, _, _, _, [], _, [], hW', trodAll_mk1 (shut_bool Try.underlying4 _), (trodAll_cons_mk (shut_string Try.underlying9 w0) (trodAll_cons_mk (shut_string Try.underlying9 w1) trodAll_mk0)), rfl, bel.frame _, fun h => by cases h⟩

theorem over : Rows.fnLikeAgreesWithTokenTableMatcherRow.holds Try.pinned (OpenSpec.ofChange Rows.fnLikeAgreesWithTokenTableMatcherSpec) :=
  OpenClaim.holds_of_wide 3 Try.f3 rfl rfl rfl rfl rfl rfl rfl ⟨rfl, rfl, rfl, rfl, rfl⟩ rfl rfl rfl rfl rfl (by kernel_rfl) Try.func3 (by kernel_rfl)
    (of_decide_eq_true (by kernel_rfl)) (by unfold Func.isWrapper; first | (rw [if_pos (by decide +kernel)]; kernel_rfl) | (rw [if_neg (by decide +kernel)]; exact ⟨rfl, rfl⟩))
    (fun os started H enc _ => lifted os started H enc)

/-- The given statement. -/
theorem proved : Rows.FnLikeAgreesWithTokenTableMatcherSaid := over
end Go.Proofs.Qxb6603229a.fnLikeAgreesWithTokenTableMatcher
