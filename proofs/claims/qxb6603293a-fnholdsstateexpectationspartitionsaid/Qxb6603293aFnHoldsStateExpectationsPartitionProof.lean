/- The proof of Rows.FnHoldsStateExpectationsPartitionSaid: the frame is the guide's template, written by program; the walks are ours. -/
import Derived.Test.Qxb6603293aRows
import Derived.WalkKit
import Derived.ProofKit
import Derived.OpenShut
import Derived.ShutString
namespace Go.Proofs.Qxb6603293a.fnHoldsStateExpectationsPartition
open Go.ChangeShapes Go.WideShapes Go.ChangeAt Go.RowKit
open Go.ChangeMaps (open_string shut_string)
set_option linter.unusedVariables false      -- a walk need not use every 'w<i>' (that an integer argument fits its kind)

theorem own : ownKnob Try.prog.godebug = none := by kernel_rfl

theorem gtrans {a b c : World} (h : Grown a b) (k : Grown b c) : Grown a c :=
  ⟨World.keptBut_trans h.1 k.1, fun x => (k.2.1 x).trans (h.2.1 x), Nat.le_trans h.2.2 k.2.2⟩

theorem c0 (r : Int) (x : Bool) (h : Int) (w : World) :
    Calls Try.prog 5 #[.int .i64 0, .int .u64 r, .bool x, .int .u64 h] w fun e w' => e = .returned (.bool true) ∧ Grown w w' := by
  go_enter Try.func5, Try.ntmps5
  go_wp2
  go_ret
  exact ⟨rfl, by repeat (first | exact Grown.refl _ | apply Grown.drew | apply Grown.alloc)⟩
theorem c1 (r : Int) (x : Bool) (h : Int) (w : World) :
    Calls Try.prog 5 #[.int .i64 1, .int .u64 r, .bool x, .int .u64 h] w fun e w' => e = .returned (.bool (!x)) ∧ Grown w w' := by
  go_enter Try.func5, Try.ntmps5
  go_wp2
  go_ret
  exact ⟨rfl, by repeat (first | exact Grown.refl _ | apply Grown.drew | apply Grown.alloc)⟩
theorem c2 (r : Int) (x : Bool) (h : Int) (w : World) :
    Calls Try.prog 5 #[.int .i64 2, .int .u64 r, .bool x, .int .u64 h] w fun e w' => e = .returned (.bool x) ∧ Grown w w' := by
  go_enter Try.func5, Try.ntmps5
  go_wp2
  go_ret
  exact ⟨rfl, by repeat (first | exact Grown.refl _ | apply Grown.drew | apply Grown.alloc)⟩
theorem c3f (r : Int) (h : Int) (w : World) :
    Calls Try.prog 5 #[.int .i64 3, .int .u64 r, .bool false, .int .u64 h] w fun e w' => e = .returned (.bool false) ∧ Grown w w' := by
  go_enter Try.func5, Try.ntmps5
  go_wp2
  go_ret
  exact ⟨rfl, by repeat (first | exact Grown.refl _ | apply Grown.drew | apply Grown.alloc)⟩
theorem c3t (r : Int) (h : Int) (w : World) :
    Calls Try.prog 5 #[.int .i64 3, .int .u64 r, .bool true, .int .u64 h] w fun e w' => e = .returned (.bool (h == r)) ∧ Grown w w' := by
  go_enter Try.func5, Try.ntmps5
  go_wp2
  go_ret
  exact ⟨rfl, by repeat (first | exact Grown.refl _ | apply Grown.drew | apply Grown.alloc)⟩

theorem walkF (a1 : Int) (a2 : Int) (w : World) :
    Calls Try.prog 3 #[.bool false, .int .u64 a1, .int .u64 a2] w fun e w' => e = .returned (.bool true) ∧ Grown w w' := by
  go_enter Try.func3, Try.ntmps3
  go_wp2_with fail
  refine (c0 _ _ _ _).mono ?_
  rintro e w1 ⟨rfl, g1⟩
  go_wp2_with fail
  refine (c1 _ _ _ _).mono ?_
  rintro e w2 ⟨rfl, g2⟩
  go_wp2_with fail
  refine (c2 _ _ _ _).mono ?_
  rintro e w3 ⟨rfl, g3⟩
  go_wp2_with fail
  refine (c3f _ _ _).mono ?_
  rintro e w4 ⟨rfl, g4⟩
  go_wp2_with fail
  refine (c3f _ _ _).mono ?_
  rintro e w5 ⟨rfl, g5⟩
  go_wp2
  go_ret
  exact ⟨rfl, gtrans (gtrans (gtrans (gtrans g1 g2) g3) g4) g5⟩
theorem walkT (a1 : Int) (a2 : Int) (w : World) :
    Calls Try.prog 3 #[.bool true, .int .u64 a1, .int .u64 a2] w fun e w' => e = .returned (.bool true) ∧ Grown w w' := by
  go_enter Try.func3, Try.ntmps3
  go_wp2_with fail
  refine (c0 _ _ _ _).mono ?_
  rintro e w1 ⟨rfl, g1⟩
  go_wp2_with fail
  refine (c1 _ _ _ _).mono ?_
  rintro e w2 ⟨rfl, g2⟩
  go_wp2_with fail
  refine (c2 _ _ _ _).mono ?_
  rintro e w3 ⟨rfl, g3⟩
  go_wp2_with fail
  refine (c3t _ _ _).mono ?_
  rintro e w4 ⟨rfl, g4⟩
  go_wp2_with fail
  refine (c3t _ _ _).mono ?_
  rintro e w5 ⟨rfl, g5⟩
  rw [show (a1 == a1) = true from by simp]
  cases a1 == a2
  · go_wp2
    go_ret
    exact ⟨rfl, gtrans (gtrans (gtrans (gtrans g1 g2) g3) g4) g5⟩
  · go_wp2
    go_ret
    exact ⟨rfl, gtrans (gtrans (gtrans (gtrans g1 g2) g3) g4) g5⟩

theorem walk (a0 : Bool) (a1 : Int) (a2 : Int) (w1 : (Lit.int .u64 a1).wf = true) (w2 : (Lit.int .u64 a2).wf = true) (w : World) :
    Calls Try.prog 3 #[.bool a0, .int .u64 a1, .int .u64 a2] w fun e w' => e = .returned (.bool true) ∧ Grown w w' := by
  cases a0
  · exact walkF a1 a2 w
  · exact walkT a1 a2 w

/-! ### THE ROW's STEP: WRITTEN OUT: LEAVE IT -/
set_option maxRecDepth 100000 in
theorem lifted (os : Os) (started : os.Started) (H : Type) (enc : TypeId × Value → H) :
    ReturnsInHanded {} Try.checked os 3 .any (Rows.fnHoldsStateExpectationsPartitionSpec.pre6 enc Try.prog Try.f3 Rows.fnHoldsStateExpectationsPartitionRow.domain false) (Rows.fnHoldsStateExpectationsPartitionSpec.post enc Try.prog Try.f3 false true false false) := by
  refine returnsInHanded_of_change (C := Try.checked) own started (by kernel_rfl) Try.func3
    (ChangeSpec.witness6 (enc := enc) (C := Try.checked) false ⟨#[], #[.bool false, .int .u64 0, .int .u64 0], []⟩ 8 (by kernel_rfl) (by kernel_rfl) (by kernel_rfl) (by kernel_rfl)) ?_
  intro W base args ds gs before hval0 hW hcnd _
  have hval : ∀ (j : Nat) t v, Try.f3.params[j]? = some t → args[j]? = some v → Value.okWide Try.prog W .any base t v := hval0
  have hW' := hW
  obtain ⟨p, q, hA0, hV, rfl, hfz, hnd⟩ := hW
  have hA : DataW.TrodAll enc Try.prog W 0 (fun _ => true) true Try.f3.params.toList args.toList ds p := hA0
  rw [Try.params3] at hA hval
  obtain ⟨v0, vs0, d0, ds0, p0, q0, hargs, rfl, rfl, h0, r0⟩ := trodAll_cons hA
  obtain ⟨v1, vs1, d1, ds1, p1, q1, rfl, rfl, rfl, h1, r1⟩ := trodAll_cons r0
  obtain ⟨v2, vs2, d2, ds2, p2, q2, rfl, rfl, rfl, h2, r2⟩ := trodAll_cons r1
  obtain ⟨rfl, rfl, rfl⟩ := trodAll_nil r2
  obtain rfl : args = #[v0, v1, v2] := by cases args; simp_all
  obtain ⟨rfl, rfl⟩ := trodVars_none hV
  obtain ⟨a0, rfl, rfl, rfl⟩ := open_bool Try.underlying4 (hval 0 4 v0 rfl rfl) h0
  obtain ⟨a1, rfl, rfl, rfl, w1⟩ := open_int Try.underlying22 (hval 1 22 v1 rfl rfl) h1
  obtain ⟨a2, rfl, rfl, rfl, w2⟩ := open_int Try.underlying22 (hval 2 22 v2 rfl rfl) h2
  clear hA0 hval0
  simp only [List.append_nil] at hW'
  refine (walk a0 a1 a2 w1 w2 W).mono fun e W' ⟨he, hg⟩ => ?_
  subst he
  exact ⟨_, rfl, post_of_same (pa := []) (pv := []) hW' (fun _ _ _ => (trodAll_cons_mk (shut_bool Try.underlying4 _) trodAll_mk0)) (fun sp _ => (trodAll_cons_mk (shut_bool Try.underlying4 _) (trodAll_cons_mk (shut_int Try.underlying22 w1) (trodAll_cons_mk (shut_int Try.underlying22 w2) trodAll_mk0)))) (fun _ _ => rfl) rfl
    (hg.frame _) hg.2.1 (ok_one (by kernel_rfl) rfl (okWide_bool_mk Try.underlying4 _))⟩

theorem over : Rows.fnHoldsStateExpectationsPartitionRow.holds Try.pinned (OpenSpec.ofChange Rows.fnHoldsStateExpectationsPartitionSpec) :=
  OpenClaim.holds_of_wide 3 Try.f3 rfl rfl rfl rfl rfl rfl rfl ⟨rfl, rfl, rfl, rfl, rfl⟩ rfl rfl rfl rfl rfl (by kernel_rfl) Try.func3 (by kernel_rfl)
    (of_decide_eq_true (by kernel_rfl)) (by unfold Func.isWrapper; first | (rw [if_pos (by decide +kernel)]; kernel_rfl) | (rw [if_neg (by decide +kernel)]; exact ⟨rfl, rfl⟩))
    (fun os started H enc _ => lifted os started H enc)

/-- ████ THE STATEMENT ████ -/
theorem proved : Rows.FnHoldsStateExpectationsPartitionSaid :=
  over
end Go.Proofs.Qxb6603293a.fnHoldsStateExpectationsPartition
