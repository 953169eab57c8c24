/-
  The walks over the project's channel functions, in one goroutine: 'closed' (a select of one receive with a default) and 'zzChan' (nil, or a channel of room one, a value waiting or not, closed or not). After the kit's worked walks over a channel in one goroutine.
-/
import Derived.Test.Qxb6609291aRows
import Derived.Conc.LoneCalls
import Derived.Conc.LoneSelect
import Derived.KernelRfl
import Derived.Laws.Rows
import Derived.Laws.Tables
namespace Go.Proofs.Qxb6609291a.chans
open Go.Conc Go.RowKit

theorem bytes43 : ∃ i, Try.prog.info? 43 = some i ∧ i.bytes = 0 := by
  have h : (Try.prog.info? 43).map (·.bytes) = some 0 := by kernel_rfl
  obtain ⟨i, hi, hb⟩ := Option.map_eq_some_iff.1 h
  exact ⟨i, hi, hb⟩
theorem mk1 (w : World) : (Instr.makeChan 30 (.int .i64 1)).run Try.prog w = .ok (.chan (some w.heap.size)) (w.alloc (.chan 1 #[] false 0 0 false)) := by
  obtain ⟨i, hi, hb⟩ := bytes43
  simpa using run_makeChan (P := Try.prog) (w := w) Try.underlying30 hi .i64 1 (by omega) (by rw [hb]; omega)

theorem bd (w : World) : (Instr.build 43 #[]).run Try.prog w = .ok (.agg #[]) w := run_build w 43 #[] #[] (by kernel_rfl)

/-! ### 'closed': the select -/
set_option maxRecDepth 100000 in
theorem closed_nil (w : World) : Calls Try.prog 13 #[.chan none] w fun e w' => e = .returned (.bool false) ∧ w' = w := by
  refine calls_of_loneTo fun cs => ?_
  have e : Frame.enter Try.prog 13 #[.chan none] .normal = (base 13).at ⟨#[.chan none, undef, undef, undef, undef, undef, undef], []⟩ [.code (Try.f13.body.getD .skip)] := by
    simp [Frame.enter, Frame.at, Try.func13, base, Try.f13]
  rw [e]
  refine LoneTo.goes (n := 10) ?_
  simp only [Try.f13, Option.getD_some]
  s_c stepG_seq
  s_reg
  s_op
  s_c stepG_region_end
  s_c stepG_seq
  s_reg
  s_op
  s_c stepG_region_end
  s_c stepG_seq
  s_reg
  s_stop
  refine LoneTo.step (step_lone_select_recv_nil (z := .agg #[]) (stepG_comm (cases := #[rcaseNil (.agg #[])]) (blocking := false) (shape := .select) (w' := w) rfl rfl (by decide) (by simp [go_sem, execOp, rcaseNil, Act.eval]))) ?_
  rw [Frame.finish_at]
  walk_nrm
  refine LoneTo.goes (n := 10) ?_
  s_op
  s_op
  s_c stepG_region_end
  s_c stepG_block
  s_cond false
  s_c stepG_seq
  s_reg
  s_op
  s_c stepG_region_end
  s_c stepG_ret'
  s_stop
  exact LoneTo.done ⟨.returned (.bool false), _, rfl, ⟨rfl, rfl⟩, rfl, rfl, rfl, rfl, _, Try.func13, by simp [results, Try.f13, Frame.at]⟩
set_option maxRecDepth 100000 in
theorem closed_open (c s r : Nat) (w : World) (hc : w.heap[c]? = some (.chan 1 #[] false s r false)) : Calls Try.prog 13 #[.chan (some c)] w fun e w' => e = .returned (.bool false) ∧ w' = w := by
  refine calls_of_loneTo fun cs => ?_
  have e : Frame.enter Try.prog 13 #[.chan (some c)] .normal = (base 13).at ⟨#[.chan (some c), undef, undef, undef, undef, undef, undef], []⟩ [.code (Try.f13.body.getD .skip)] := by
    simp [Frame.enter, Frame.at, Try.func13, base, Try.f13]
  rw [e]
  refine LoneTo.goes (n := 10) ?_
  simp only [Try.f13, Option.getD_some]
  s_c stepG_seq
  s_reg
  s_op
  s_c stepG_region_end
  s_c stepG_seq
  s_reg
  s_op
  s_c stepG_region_end
  s_c stepG_seq
  s_reg
  s_stop
  refine LoneTo.step (step_lone_select_default (c := c) (z := .agg #[]) (cap := 1) (s := s) (r := r) (tm := false) (stepG_comm (cases := #[rcase c (.agg #[])]) (blocking := false) (shape := .select) (w' := w) rfl rfl (by decide) (by simp [go_sem, execOp, rcase, Act.eval])) hc) ?_
  rw [Frame.finish_at]
  walk_nrm
  refine LoneTo.goes (n := 10) ?_
  s_op
  s_op
  s_c stepG_region_end
  s_c stepG_block
  s_cond false
  s_c stepG_seq
  s_reg
  s_op
  s_c stepG_region_end
  s_c stepG_ret'
  s_stop
  exact LoneTo.done ⟨.returned (.bool false), _, rfl, ⟨rfl, rfl⟩, rfl, rfl, rfl, rfl, _, Try.func13, by simp [results, Try.f13, Frame.at]⟩
set_option maxRecDepth 100000 in
theorem closed_shut (c s r : Nat) (w : World) (hc : w.heap[c]? = some (.chan 1 #[] true s r false)) : Calls Try.prog 13 #[.chan (some c)] w fun e w' => e = .returned (.bool true) ∧ w' = w := by
  refine calls_of_loneTo fun cs => ?_
  have e : Frame.enter Try.prog 13 #[.chan (some c)] .normal = (base 13).at ⟨#[.chan (some c), undef, undef, undef, undef, undef, undef], []⟩ [.code (Try.f13.body.getD .skip)] := by
    simp [Frame.enter, Frame.at, Try.func13, base, Try.f13]
  rw [e]
  refine LoneTo.goes (n := 10) ?_
  simp only [Try.f13, Option.getD_some]
  s_c stepG_seq
  s_reg
  s_op
  s_c stepG_region_end
  s_c stepG_seq
  s_reg
  s_op
  s_c stepG_region_end
  s_c stepG_seq
  s_reg
  s_stop
  refine LoneTo.step (step_lone_select_recv_shut (c := c) (z := .agg #[]) (cap := 1) (s := s) (r := r) (tm := false) (stepG_comm (cases := #[rcase c (.agg #[])]) (blocking := false) (shape := .select) (w' := w) rfl rfl (by decide) (by simp [go_sem, execOp, rcase, Act.eval])) hc) ?_
  rw [Frame.finish_at]
  walk_nrm
  refine LoneTo.goes (n := 10) ?_
  s_op
  s_op
  s_c stepG_region_end
  s_c stepG_block
  s_cond true
  s_c stepG_seq
  s_reg
  s_op
  s_c stepG_region_end
  s_c stepG_ret'
  s_stop
  exact LoneTo.done ⟨.returned (.bool true), _, rfl, ⟨rfl, rfl⟩, rfl, rfl, rfl, rfl, _, Try.func13, by simp [results, Try.f13, Frame.at]⟩
set_option maxRecDepth 100000 in
theorem closed_pend (c s r : Nat) (cl : Bool) (v : Value) (w : World) (hc : w.heap[c]? = some (.chan 1 #[v] cl s r false)) : Calls Try.prog 13 #[.chan (some c)] w fun e w' => e = .returned (.bool true) ∧ w' = w.setChan c 1 #[] cl s (r + 1) false := by
  refine calls_of_loneTo fun cs => ?_
  have e : Frame.enter Try.prog 13 #[.chan (some c)] .normal = (base 13).at ⟨#[.chan (some c), undef, undef, undef, undef, undef, undef], []⟩ [.code (Try.f13.body.getD .skip)] := by
    simp [Frame.enter, Frame.at, Try.func13, base, Try.f13]
  rw [e]
  refine LoneTo.goes (n := 10) ?_
  simp only [Try.f13, Option.getD_some]
  s_c stepG_seq
  s_reg
  s_op
  s_c stepG_region_end
  s_c stepG_seq
  s_reg
  s_op
  s_c stepG_region_end
  s_c stepG_seq
  s_reg
  s_stop
  refine LoneTo.step (step_lone_select_recv_buf (c := c) (z := .agg #[]) (cap := 1) (buf := #[v]) (closed := cl) (s := s) (r := r) (tm := false) (stepG_comm (cases := #[rcase c (.agg #[])]) (blocking := false) (shape := .select) (w' := w) rfl rfl (by decide) (by simp [go_sem, execOp, rcase, Act.eval])) hc (by simp)) ?_
  rw [Frame.finish_at]
  walk_nrm
  refine LoneTo.goes (n := 10) ?_
  s_op
  s_op
  s_c stepG_region_end
  s_c stepG_block
  s_cond true
  s_c stepG_seq
  s_reg
  s_op
  s_c stepG_region_end
  s_c stepG_ret'
  s_stop
  exact LoneTo.done ⟨.returned (.bool true), _, rfl, ⟨rfl, rfl⟩, rfl, rfl, rfl, rfl, _, Try.func13, by simp [results, Try.f13, Frame.at]⟩

/-! ### 'zzChan': the nil channel, or one of room one -/
set_option maxRecDepth 100000 in
theorem zz_false_false (w : World) : Calls Try.prog 14 #[.bool false, .bool false, .bool false] w fun e w' => e = .returned (.chan (some w.heap.size)) ∧ Below w.heap.size w w' ∧ w'.heap[w.heap.size]? = some (.chan 1 #[] false 0 0 false) := by
  refine calls_of_loneTo fun cs => ?_
  have e : Frame.enter Try.prog 14 #[.bool false, .bool false, .bool false] .normal = (base 14).at ⟨#[.bool false, .bool false, .bool false, undef, undef, undef, undef, undef, undef, undef, undef, undef, undef, undef, undef, undef], []⟩ [.code (Try.f14.body.getD .skip)] := by
    simp [Frame.enter, Frame.at, Try.func14, base, Try.f14]
  rw [e]
  have hmc := mk1
  refine LoneTo.goes (n := 36) ?_
  simp only [Try.f14, Option.getD_some]
  s_c stepG_seq
  s_reg
  s_op
  s_c stepG_region_end
  s_c stepG_seq
  s_c stepG_seq
  s_reg
  s_op
  s_c stepG_region_end
  s_cond false
  s_c stepG_skip
  s_c stepG_seq
  s_reg
  s_op
  s_op
  s_c stepG_region_end
  s_c stepG_seq
  s_c stepG_seq
  s_reg
  s_op
  s_c stepG_region_end
  s_cond false
  s_c stepG_skip
  s_c stepG_seq
  s_c stepG_seq
  s_reg
  s_op
  s_c stepG_region_end
  s_cond false
  s_c stepG_skip
  s_c stepG_seq
  s_reg
  s_op
  s_op
  s_c stepG_region_end
  s_c stepG_ret'
  s_stop
  refine LoneTo.done ⟨.returned (.chan (some w.heap.size)), _, rfl, ⟨rfl, ?_, ?_⟩, rfl, rfl, rfl, rfl, _, Try.func14, by simp [results, Try.f14, Frame.at]⟩
  · exact (Below.refl _ w).alloc (Nat.le_refl _) _
  · exact heap_alloc_new w (.chan 1 #[] false 0 0 false)
set_option maxRecDepth 100000 in
theorem zz_false_true (w : World) : Calls Try.prog 14 #[.bool false, .bool true, .bool false] w fun e w' => e = .returned (.chan (some w.heap.size)) ∧ Below w.heap.size w w' ∧ w'.heap[w.heap.size]? = some (.chan 1 #[] true 0 0 false) := by
  refine calls_of_loneTo fun cs => ?_
  have e : Frame.enter Try.prog 14 #[.bool false, .bool true, .bool false] .normal = (base 14).at ⟨#[.bool false, .bool true, .bool false, undef, undef, undef, undef, undef, undef, undef, undef, undef, undef, undef, undef, undef], []⟩ [.code (Try.f14.body.getD .skip)] := by
    simp [Frame.enter, Frame.at, Try.func14, base, Try.f14]
  rw [e]
  have hmc := mk1
  refine LoneTo.goes (n := 39) ?_
  simp only [Try.f14, Option.getD_some]
  s_c stepG_seq
  s_reg
  s_op
  s_c stepG_region_end
  s_c stepG_seq
  s_c stepG_seq
  s_reg
  s_op
  s_c stepG_region_end
  s_cond false
  s_c stepG_skip
  s_c stepG_seq
  s_reg
  s_op
  s_op
  s_c stepG_region_end
  s_c stepG_seq
  s_c stepG_seq
  s_reg
  s_op
  s_c stepG_region_end
  s_cond false
  s_c stepG_skip
  s_c stepG_seq
  s_c stepG_seq
  s_reg
  s_op
  s_c stepG_region_end
  s_cond true
  s_reg
  s_op
  s_in
  refine goes_oper_k rfl rfl (by decide) (fun K hK => ?_)
  have hcl := fun ats ty => run_close_open (P := Try.prog) (w := w.alloc (.chan 1 #[] false 0 0 false)) ats ty (heap_alloc_new w (.chan 1 #[] false 0 0 false))
  go_simp
  refine hK _ _ ⟨trivial, ?_⟩
  clear hK K hcl
  s_c stepG_region_end
  s_c stepG_seq
  s_reg
  s_op
  s_op
  s_c stepG_region_end
  s_c stepG_ret'
  s_stop
  refine LoneTo.done ⟨.returned (.chan (some w.heap.size)), _, rfl, ⟨rfl, ?_, ?_⟩, rfl, rfl, rfl, rfl, _, Try.func14, by simp [results, Try.f14, Frame.at]⟩
  · exact below_setChan ((Below.refl _ w).alloc (Nat.le_refl _) _) (Nat.le_refl _) 1 #[] true 0 0 false
  · exact heap_setChan (w.alloc (.chan 1 #[] false 0 0 false)) w.heap.size 1 #[] true 0 0 false (by simp)
set_option maxRecDepth 100000 in
theorem zz_true_false (w : World) : Calls Try.prog 14 #[.bool false, .bool false, .bool true] w fun e w' => e = .returned (.chan (some w.heap.size)) ∧ Below w.heap.size w w' ∧ w'.heap[w.heap.size]? = some (.chan 1 #[.agg #[]] false 1 0 false) := by
  refine calls_of_loneTo fun cs => ?_
  have e : Frame.enter Try.prog 14 #[.bool false, .bool false, .bool true] .normal = (base 14).at ⟨#[.bool false, .bool false, .bool true, undef, undef, undef, undef, undef, undef, undef, undef, undef, undef, undef, undef, undef], []⟩ [.code (Try.f14.body.getD .skip)] := by
    simp [Frame.enter, Frame.at, Try.func14, base, Try.f14]
  rw [e]
  have hmc := mk1
  have hbd := bd
  refine LoneTo.goes (n := 25) ?_
  simp only [Try.f14, Option.getD_some]
  s_c stepG_seq
  s_reg
  s_op
  s_c stepG_region_end
  s_c stepG_seq
  s_c stepG_seq
  s_reg
  s_op
  s_c stepG_region_end
  s_cond false
  s_c stepG_skip
  s_c stepG_seq
  s_reg
  s_op
  s_op
  s_c stepG_region_end
  s_c stepG_seq
  s_c stepG_seq
  s_reg
  s_op
  s_c stepG_region_end
  s_cond true
  s_reg
  s_op
  s_op
  s_stop
  refine LoneTo.step (step_lone_send_room (c := w.heap.size) (cap := 1) (buf := #[]) (s := 0) (r := 0) (tm := false) (stepG_comm (cases := #[scase w.heap.size (.agg #[]) (.tuple #[])]) (blocking := true) (shape := .send) (w' := w.alloc (.chan 1 #[] false 0 0 false)) rfl rfl (by decide) (by simp [execOp, scase, Act.eval])) (heap_alloc_new _ _) (by simp)) ?_
  rw [Frame.finish_at]
  walk_nrm
  refine LoneTo.goes (n := 14) ?_
  s_c stepG_region_end
  s_c stepG_seq
  s_c stepG_seq
  s_reg
  s_op
  s_c stepG_region_end
  s_cond false
  s_c stepG_skip
  s_c stepG_seq
  s_reg
  s_op
  s_op
  s_c stepG_region_end
  s_c stepG_ret'
  s_stop
  refine LoneTo.done ⟨.returned (.chan (some w.heap.size)), _, rfl, ⟨rfl, ?_, ?_⟩, rfl, rfl, rfl, rfl, _, Try.func14, by simp [results, Try.f14, Frame.at]⟩
  · exact below_setChan ((Below.refl _ w).alloc (Nat.le_refl _) _) (Nat.le_refl _) _ _ _ _ _ _
  · exact heap_setChan (w.alloc (.chan 1 #[] false 0 0 false)) w.heap.size 1 #[.agg #[]] false 1 0 false (by simp)
set_option maxRecDepth 100000 in
theorem zz_true_true (w : World) : Calls Try.prog 14 #[.bool false, .bool true, .bool true] w fun e w' => e = .returned (.chan (some w.heap.size)) ∧ Below w.heap.size w w' ∧ w'.heap[w.heap.size]? = some (.chan 1 #[.agg #[]] true 1 0 false) := by
  refine calls_of_loneTo fun cs => ?_
  have e : Frame.enter Try.prog 14 #[.bool false, .bool true, .bool true] .normal = (base 14).at ⟨#[.bool false, .bool true, .bool true, undef, undef, undef, undef, undef, undef, undef, undef, undef, undef, undef, undef, undef], []⟩ [.code (Try.f14.body.getD .skip)] := by
    simp [Frame.enter, Frame.at, Try.func14, base, Try.f14]
  rw [e]
  have hmc := mk1
  have hbd := bd
  refine LoneTo.goes (n := 25) ?_
  simp only [Try.f14, Option.getD_some]
  s_c stepG_seq
  s_reg
  s_op
  s_c stepG_region_end
  s_c stepG_seq
  s_c stepG_seq
  s_reg
  s_op
  s_c stepG_region_end
  s_cond false
  s_c stepG_skip
  s_c stepG_seq
  s_reg
  s_op
  s_op
  s_c stepG_region_end
  s_c stepG_seq
  s_c stepG_seq
  s_reg
  s_op
  s_c stepG_region_end
  s_cond true
  s_reg
  s_op
  s_op
  s_stop
  refine LoneTo.step (step_lone_send_room (c := w.heap.size) (cap := 1) (buf := #[]) (s := 0) (r := 0) (tm := false) (stepG_comm (cases := #[scase w.heap.size (.agg #[]) (.tuple #[])]) (blocking := true) (shape := .send) (w' := w.alloc (.chan 1 #[] false 0 0 false)) rfl rfl (by decide) (by simp [execOp, scase, Act.eval])) (heap_alloc_new _ _) (by simp)) ?_
  rw [Frame.finish_at]
  walk_nrm
  refine LoneTo.goes (n := 17) ?_
  s_c stepG_region_end
  s_c stepG_seq
  s_c stepG_seq
  s_reg
  s_op
  s_c stepG_region_end
  s_cond true
  s_reg
  s_op
  s_in
  refine goes_oper_k rfl rfl (by decide) (fun K hK => ?_)
  have hcl := fun ats ty => run_close_open (P := Try.prog) (w := (w.alloc (.chan 1 #[] false 0 0 false)).setChan w.heap.size 1 #[.agg #[]] false 1 0 false) ats ty (heap_setChan (w.alloc (.chan 1 #[] false 0 0 false)) w.heap.size 1 #[.agg #[]] false 1 0 false (by simp))
  go_simp
  refine hK _ _ ⟨trivial, ?_⟩
  clear hK K hcl
  s_c stepG_region_end
  s_c stepG_seq
  s_reg
  s_op
  s_op
  s_c stepG_region_end
  s_c stepG_ret'
  s_stop
  refine LoneTo.done ⟨.returned (.chan (some w.heap.size)), _, rfl, ⟨rfl, ?_, ?_⟩, rfl, rfl, rfl, rfl, _, Try.func14, by simp [results, Try.f14, Frame.at]⟩
  · exact below_setChan (below_setChan ((Below.refl _ w).alloc (Nat.le_refl _) _) (Nat.le_refl _) _ _ _ _ _ _) (Nat.le_refl _) 1 #[.agg #[]] true 1 0 false
  · exact heap_setChan ((w.alloc (.chan 1 #[] false 0 0 false)).setChan w.heap.size 1 #[.agg #[]] false 1 0 false) w.heap.size 1 #[.agg #[]] true 1 0 false (by simp [World.setChan])
end Go.Proofs.Qxb6609291a.chans
