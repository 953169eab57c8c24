/-
  A proof of the given statement: the kit's shell (proof-skeleton.mjs) at this function, the walk filled in.
-/
import Derived.Test.Qxb6609203aRows
import Derived.WalkKit
import Derived.ProofKit
import Derived.OpenShut
import Derived.ShutString
namespace Go.Proofs.Qxb6609203a.fnActionBitsWordsBracketsAndGrowsByAWord
open Go.ChangeShapes Go.WideShapes Go.ChangeAt Go.RowKit
open Go.ChangeMaps (open_string shut_string)
set_option linter.unusedVariables false      -- a walk need not use every 'w<i>' (that an integer argument fits its kind)

theorem own : ownKnob Try.prog.godebug = none := by kernel_rfl

set_option maxRecDepth 20000
set_option maxHeartbeats 1000000
/-! ### the callee: 'words' -/
theorem words_any (x : Int) (s : ByteArray) (w : World) (hs : s.size ≤ 2097152) :
    Calls Try.prog 7 #[.int .u64 x, .string s] w fun e w' => e = .returned (.int .i64 (1 + (s.size : Int) / 8)) ∧ w' = w.alloc (.cells #[.int .u64 x, .string s] 40) := by
  go_enter Try.func7, Try.ntmps7
  go_wp2
  go_ret
  exact ⟨rfl, rfl⟩
theorem bytes_any (x : Int) (s : ByteArray) (w : World) (hs : ¬ (1048576 : Int) < s.size) :
    Calls Try.prog 6 #[.int .u64 x, .string s] w fun e w' => e = .returned (.bool true) ∧ w' = w := by
  go_enter Try.func6, Try.ntmps6
  go_wp2
  go_ret
  exact ⟨rfl, rfl⟩

/-! ### 'string([]byte{1, 0, 0, 0, 0, 0, 0, 0})' -/
def lit8 : ByteArray := ⟨#[1, 0, 0, 0, 0, 0, 0, 0]⟩
theorem conv8 (w : World) : (convert 25 9 (.slice (some ⟨w.heap.size, 0, none⟩) 8 8)).run Try.prog (w.alloc (.cells #[.int .u8 1, .int .u8 0, .int .u8 0, .int .u8 0, .int .u8 0, .int .u8 0, .int .u8 0, .int .u8 0] 5)) = .ok (.string lit8) (w.alloc (.cells #[.int .u8 1, .int .u8 0, .int .u8 0, .int .u8 0, .int .u8 0, .int .u8 0, .int .u8 0, .int .u8 0] 5)) := by
  refine run_convert_bytes_back (P := Try.prog) _ 25 9 5 ⟨w.heap.size, 0, none⟩ 8 [1, 0, 0, 0, 0, 0, 0, 0] Try.underlying25 Try.underlying5 Try.underlying9 ?_
  intro j hj
  have : j = 0 ∨ j = 1 ∨ j = 2 ∨ j = 3 ∨ j = 4 ∨ j = 5 ∨ j = 6 ∨ j = 7 := by simp at hj; omega
  rcases this with rfl | rfl | rfl | rfl | rfl | rfl | rfl | rfl <;> simp [Addr.add]

/-! ### THE WALK -/
theorem walk (a0 : Int) (a1 : ByteArray) (w0 : (Lit.int .u64 a0).wf = true) (w1 : a1.size ≤ maxLen) (w : World) :
    Calls Try.prog 3 #[.int .u64 a0, .string a1] w fun e w' => e = .returned (.bool true) ∧ Grown w w' := by
  unfold maxLen at w1
  by_cases c1 : (1048576 : Int) < a1.size
  · go_enter Try.func3, Try.ntmps3
    go_wp2
    go_ret
    exact ⟨rfl, Grown.refl _⟩
  have hs : a1.size ≤ 2097152 := by omega
  have hcv := conv8 (w.alloc (.cells #[.int .u64 a0, .string a1] 40))
  rw [World.size_alloc] at hcv
  have hl8 : lit8.size = 8 := rfl
  have hap : (a1 ++ lit8).size = a1.size + 8 := by rw [ByteArray.size_append, hl8]
  have hs8 : (a1 ++ lit8).size ≤ 2097152 := by rw [hap]; omega
  go_enter Try.func3, Try.ntmps3
  go_wp2_with (first
    | (go_at_call 6; refine (bytes_any _ _ _ c1).mono ?_; rintro e w' ⟨rfl, rfl⟩)
    | (go_at_call 7; refine (words_any _ _ _ (by first | exact hs | exact hs8)).mono ?_; rintro e w' ⟨rfl, rfl⟩))
  go_ret
  exact ⟨rfl, ((((Grown.refl _).alloc _ _).alloc _ _).alloc _ _).alloc _ _⟩

/-! ### THE ROW's STEP: WRITTEN OUT: LEAVE IT -/
set_option maxRecDepth 100000 in
theorem lifted (os : Os) (started : os.Started) (H : Type) (enc : TypeId × Value → H) :
    ReturnsInHanded {} Try.checked os 3 .any (Rows.fnActionBitsWordsBracketsAndGrowsByAWordSpec.pre6 enc Try.prog Try.f3 Rows.fnActionBitsWordsBracketsAndGrowsByAWordRow.domain false) (Rows.fnActionBitsWordsBracketsAndGrowsByAWordSpec.post enc Try.prog Try.f3 false true false false) := by
  refine returnsInHanded_of_change (C := Try.checked) own started (by kernel_rfl) Try.func3
    (ChangeSpec.witness6 (enc := enc) (C := Try.checked) false ⟨#[], #[.int .u64 0, .string ByteArray.empty], []⟩ 8 (by kernel_rfl) (by kernel_rfl) (by kernel_rfl) (by kernel_rfl)) ?_
  intro W base args ds gs before hval0 hW hcnd _
  have hval : ∀ (j : Nat) t v, Try.f3.params[j]? = some t → args[j]? = some v → Value.okWide Try.prog W .any base t v := hval0
  have hW' := hW
  obtain ⟨p, q, hA0, hV, rfl, hfz, hnd⟩ := hW
  have hA : DataW.TrodAll enc Try.prog W 0 (fun _ => true) true Try.f3.params.toList args.toList ds p := hA0
  rw [Try.params3] at hA hval
  obtain ⟨v0, vs0, d0, ds0, p0, q0, hargs, rfl, rfl, h0, r0⟩ := trodAll_cons hA
  obtain ⟨v1, vs1, d1, ds1, p1, q1, rfl, rfl, rfl, h1, r1⟩ := trodAll_cons r0
  obtain ⟨rfl, rfl, rfl⟩ := trodAll_nil r1
  obtain rfl : args = #[v0, v1] := by cases args; simp_all
  obtain ⟨rfl, rfl⟩ := trodVars_none hV
  obtain ⟨a0, rfl, rfl, rfl, w0⟩ := open_int Try.underlying22 (hval 0 22 v0 rfl rfl) h0
  obtain ⟨a1, rfl, rfl, rfl, w1⟩ := open_string Try.underlying9 (hval 1 9 v1 rfl rfl) h1
  clear hA0 hval0
  simp only [List.append_nil] at hW'
  refine (walk a0 a1 w0 w1 W).mono fun e W' ⟨he, hg⟩ => ?_
  subst he
  exact ⟨_, rfl, post_of_same (pa := []) (pv := []) hW' (fun _ _ _ => (trodAll_cons_mk (shut_bool Try.underlying4 _) trodAll_mk0)) (fun sp _ => (trodAll_cons_mk (shut_int Try.underlying22 w0) (trodAll_cons_mk (shut_string Try.underlying9 w1) trodAll_mk0))) (fun _ _ => rfl) rfl
    (hg.frame _) hg.2.1 (ok_one (by kernel_rfl) rfl (okWide_bool_mk Try.underlying4 _))⟩

theorem over : Rows.fnActionBitsWordsBracketsAndGrowsByAWordRow.holds Try.pinned (OpenSpec.ofChange Rows.fnActionBitsWordsBracketsAndGrowsByAWordSpec) :=
  OpenClaim.holds_of_wide 3 Try.f3 rfl rfl rfl rfl rfl rfl rfl ⟨rfl, rfl, rfl, rfl, rfl⟩ rfl rfl rfl rfl rfl (by kernel_rfl) Try.func3 (by kernel_rfl)
    (of_decide_eq_true (by kernel_rfl)) (by unfold Func.isWrapper; first | (rw [if_pos (by decide +kernel)]; kernel_rfl) | (rw [if_neg (by decide +kernel)]; exact ⟨rfl, rfl⟩))
    (fun os started H enc _ => lifted os started H enc)

/-- ████ THE STATEMENT ████ -/
theorem proved : Rows.FnActionBitsWordsBracketsAndGrowsByAWordSaid :=
  over
end Go.Proofs.Qxb6609203a.fnActionBitsWordsBracketsAndGrowsByAWord
