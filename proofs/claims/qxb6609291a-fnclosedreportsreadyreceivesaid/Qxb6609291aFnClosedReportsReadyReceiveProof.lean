/-
  A proof of the given statement: the kit's shell (proof-skeleton.mjs) at this function, the walk filled in.
-/
import Derived.Test.Qxb6609291aRows
import Derived.WalkKit
import Derived.ProofKit
import Derived.OpenShut
import Derived.ShutString
import Derived.Test.Qxb6609291aChans
namespace Go.Proofs.Qxb6609291a.fnClosedReportsReadyReceive
open Go.ChangeShapes Go.WideShapes Go.ChangeAt Go.RowKit
open Go.ChangeMaps (open_string shut_string)
open Go.Conc (below_setChan heap_setChan)
open Go.Proofs.Qxb6609291a.chans
set_option linter.unusedVariables false      -- a walk need not use every 'w<i>' (that an integer argument fits its kind)

theorem own : ownKnob Try.prog.godebug = none := by kernel_rfl

/-! ### the callees -/
theorem zz_nil (cl p : Bool) (w : World) : Calls Try.prog 14 #[.bool true, .bool cl, .bool p] w fun e w' => e = .returned (.chan none) ∧ w' = w := by
  go_enter Try.func14, Try.ntmps14
  go_wp2
  go_ret
  exact ⟨rfl, rfl⟩
theorem of_nil (cl p : Bool) (w : World) : Calls Try.prog 7 #[.bool true, .bool cl, .bool p] w fun e w' => e = .returned (.bool false) ∧ Below w.heap.size w w' := by
  go_enter Try.func7, Try.ntmps7
  go_wp2_with (first
    | (go_at_call 14; refine (zz_nil _ _ _).mono ?_; rintro e w' ⟨rfl, rfl⟩)
    | (go_at_call 13; refine (closed_nil _).mono ?_; rintro e w' ⟨rfl, rfl⟩))
  go_ret
  exact ⟨rfl, Below.refl _ _⟩
theorem of_false_false (w : World) : Calls Try.prog 7 #[.bool false, .bool false, .bool false] w fun e w' => e = .returned (.bool false) ∧ Below w.heap.size w w' := by
  go_enter Try.func7, Try.ntmps7
  go_wp2_with (first
    | (go_at_call 14; refine (zz_false_false _).mono ?_; rintro e w1 ⟨rfl, hb, hc⟩)
    | (go_at_call 13; refine (closed_open _ _ _ _ hc).mono ?_; rintro e w' ⟨rfl, rfl⟩))
  go_ret
  exact ⟨rfl, hb⟩
theorem of_false_true (w : World) : Calls Try.prog 7 #[.bool false, .bool false, .bool true] w fun e w' => e = .returned (.bool true) ∧ Below w.heap.size w w' := by
  go_enter Try.func7, Try.ntmps7
  go_wp2_with (first
    | (go_at_call 14; refine (zz_true_false _).mono ?_; rintro e w1 ⟨rfl, hb, hc⟩)
    | (go_at_call 13; refine (closed_pend _ _ _ _ _ _ hc).mono ?_; rintro e w' ⟨rfl, rfl⟩))
  go_ret
  exact ⟨rfl, below_setChan hb (Nat.le_refl _) _ _ _ _ _ _⟩
theorem of_true_false (w : World) : Calls Try.prog 7 #[.bool false, .bool true, .bool false] w fun e w' => e = .returned (.bool true) ∧ Below w.heap.size w w' := by
  go_enter Try.func7, Try.ntmps7
  go_wp2_with (first
    | (go_at_call 14; refine (zz_false_true _).mono ?_; rintro e w1 ⟨rfl, hb, hc⟩)
    | (go_at_call 13; refine (closed_shut _ _ _ _ hc).mono ?_; rintro e w' ⟨rfl, rfl⟩))
  go_ret
  exact ⟨rfl, hb⟩
theorem of_true_true (w : World) : Calls Try.prog 7 #[.bool false, .bool true, .bool true] w fun e w' => e = .returned (.bool true) ∧ Below w.heap.size w w' := by
  go_enter Try.func7, Try.ntmps7
  go_wp2_with (first
    | (go_at_call 14; refine (zz_true_true _).mono ?_; rintro e w1 ⟨rfl, hb, hc⟩)
    | (go_at_call 13; refine (closed_pend _ _ _ _ _ _ hc).mono ?_; rintro e w' ⟨rfl, rfl⟩))
  go_ret
  exact ⟨rfl, below_setChan hb (Nat.le_refl _) _ _ _ _ _ _⟩

/-! ### THE WALK -/
theorem walk (a0 : Bool) (a1 : Bool) (a2 : Bool) (w : World) :
    Calls Try.prog 3 #[.bool a0, .bool a1, .bool a2] w fun e w' => e = .returned (.bool true) ∧ Below w.heap.size w w' := by
  cases a0 with
  | true =>
    go_enter Try.func3, Try.ntmps3
    go_wp2_with (go_at_call 7; refine (of_nil _ _ _).mono ?_; rintro e w' ⟨rfl, hb⟩)
    go_ret
    exact ⟨rfl, hb⟩
  | false =>
    cases a1 <;> cases a2
    · go_enter Try.func3, Try.ntmps3
      go_wp2_with (go_at_call 7; refine (of_false_false _).mono ?_; rintro e w' ⟨rfl, hb⟩)
      go_ret
      exact ⟨rfl, hb⟩
    · go_enter Try.func3, Try.ntmps3
      go_wp2_with (go_at_call 7; refine (of_false_true _).mono ?_; rintro e w' ⟨rfl, hb⟩)
      go_ret
      exact ⟨rfl, hb⟩
    · go_enter Try.func3, Try.ntmps3
      go_wp2_with (go_at_call 7; refine (of_true_false _).mono ?_; rintro e w' ⟨rfl, hb⟩)
      go_ret
      exact ⟨rfl, hb⟩
    · go_enter Try.func3, Try.ntmps3
      go_wp2_with (go_at_call 7; refine (of_true_true _).mono ?_; rintro e w' ⟨rfl, hb⟩)
      go_ret
      exact ⟨rfl, hb⟩

/-! ### THE ROW's STEP: WRITTEN OUT: LEAVE IT -/
set_option maxRecDepth 100000 in
theorem lifted (os : Os) (started : os.Started) (H : Type) (enc : TypeId × Value → H) :
    ReturnsInHanded {} Try.checked os 3 .any (Rows.fnClosedReportsReadyReceiveSpec.pre6 enc Try.prog Try.f3 Rows.fnClosedReportsReadyReceiveRow.domain false) (Rows.fnClosedReportsReadyReceiveSpec.post enc Try.prog Try.f3 false true false false) := by
  refine returnsInHanded_of_change (C := Try.checked) own started (by kernel_rfl) Try.func3
    (ChangeSpec.witness6 (enc := enc) (C := Try.checked) false ⟨#[], #[.bool false, .bool false, .bool false], []⟩ 8 (by kernel_rfl) (by kernel_rfl) (by kernel_rfl) (by kernel_rfl)) ?_
  intro W base args ds gs before hval0 hW hcnd _
  have hval : ∀ (j : Nat) t v, Try.f3.params[j]? = some t → args[j]? = some v → Value.okWide Try.prog W .any base t v := hval0
  have hW' := hW
  obtain ⟨p, q, hA0, hV, rfl, hfz, hnd⟩ := hW
  have hA : DataW.TrodAll enc Try.prog W 0 (fun _ => true) true Try.f3.params.toList args.toList ds p := hA0
  rw [Try.params3] at hA hval
  obtain ⟨v0, vs0, d0, ds0, p0, q0, hargs, rfl, rfl, h0, r0⟩ := trodAll_cons hA
  obtain ⟨v1, vs1, d1, ds1, p1, q1, rfl, rfl, rfl, h1, r1⟩ := trodAll_cons r0
  obtain ⟨v2, vs2, d2, ds2, p2, q2, rfl, rfl, rfl, h2, r2⟩ := trodAll_cons r1
  obtain ⟨rfl, rfl, rfl⟩ := trodAll_nil r2
  obtain rfl : args = #[v0, v1, v2] := by cases args; simp_all
  obtain ⟨rfl, rfl⟩ := trodVars_none hV
  obtain ⟨a0, rfl, rfl, rfl⟩ := open_bool Try.underlying4 (hval 0 4 v0 rfl rfl) h0
  obtain ⟨a1, rfl, rfl, rfl⟩ := open_bool Try.underlying4 (hval 1 4 v1 rfl rfl) h1
  obtain ⟨a2, rfl, rfl, rfl⟩ := open_bool Try.underlying4 (hval 2 4 v2 rfl rfl) h2
  clear hA0 hval0
  simp only [List.append_nil] at hW'
  refine (walk a0 a1 a2 W).mono fun e W' ⟨he, hb⟩ => ?_
  subst he
  exact ⟨_, rfl, ⟨_, _, _, [], _, [], hW', trodAll_cons_mk (shut_bool Try.underlying4 _) trodAll_mk0, trodAll_cons_mk (shut_bool Try.underlying4 _) (trodAll_cons_mk (shut_bool Try.underlying4 _) (trodAll_cons_mk (shut_bool Try.underlying4 _) trodAll_mk0)), rfl, hb.frame _, fun h => by cases h⟩⟩

theorem over : Rows.fnClosedReportsReadyReceiveRow.holds Try.pinned (OpenSpec.ofChange Rows.fnClosedReportsReadyReceiveSpec) :=
  OpenClaim.holds_of_wide 3 Try.f3 rfl rfl rfl rfl rfl rfl rfl ⟨rfl, rfl, rfl, rfl, rfl⟩ rfl rfl rfl rfl rfl (by kernel_rfl) Try.func3 (by kernel_rfl)
    (of_decide_eq_true (by kernel_rfl)) (by unfold Func.isWrapper; first | (rw [if_pos (by decide +kernel)]; kernel_rfl) | (rw [if_neg (by decide +kernel)]; exact ⟨rfl, rfl⟩))
    (fun os started H enc _ => lifted os started H enc)

/-- ████ THE STATEMENT ████ -/
theorem proved : Rows.FnClosedReportsReadyReceiveSaid :=
  over
end Go.Proofs.Qxb6609291a.fnClosedReportsReadyReceive
