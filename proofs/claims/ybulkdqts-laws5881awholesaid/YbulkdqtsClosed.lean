/-
  zzs5881aclosed: over the nil channel, an open one and a closed one: a select of one receive with a default, in one goroutine (after the guide's PeepWalks.lean).
-/
import Derived.Test.YbulkdqtsRows
import Derived.Conc.LoneSelect
import Derived.KernelRfl
import Derived.Laws.Rows
import Derived.WalkKit
namespace Go.Proofs.Ybulkdqts.E
open Go.Conc Go.RowKit
set_option maxRecDepth 100000 in
theorem closed_nil (w : World) : Calls Yba.prog 6 #[.chan none] w fun e w' => e = .returned (.bool false) ∧ w' = w := by
  have hq : ∀ w, (binOp .eql 26 (.chan none) (.chan none)).run Yba.prog w = .ok (.bool true) w := fun w => by kernel_rfl
  go_enter Yba.func6, Yba.ntmps6
  go_wp2
  go_ret
  exact ⟨rfl, rfl⟩
theorem eq_nil (c : Nat) (w : World) : (binOp .eql 26 (.chan (some c)) (.chan none)).run Yba.prog w = .ok (.bool false) w := by kernel_rfl
set_option maxRecDepth 100000 in
theorem closed_shut (c : Nat) (w : World) (hc : w.heap[c]? = some (.chan 0 #[] true 0 0 false)) : Calls Yba.prog 6 #[.chan (some c)] w fun e w' => e = .returned (.bool true) ∧ w' = w := by
  refine calls_of_loneTo fun cs => ?_
  have e : Frame.enter Yba.prog 6 #[.chan (some c)] .normal = (base 6).at ⟨#[.chan (some c), undef, undef, undef, undef, undef, undef, undef, undef], []⟩ [.code (Yba.f6.body.getD .skip)] := by
    simp [Frame.enter, Frame.at, Yba.func6, base, Yba.f6]
  rw [e]
  have hen := eq_nil c
  refine LoneTo.goes (n := 40) ?_
  simp only [Yba.f6, Option.getD_some]
  s_c stepG_seq
  s_reg
  s_op
  s_c stepG_region_end
  s_c stepG_seq
  s_c stepG_seq
  s_reg
  s_op
  s_op
  s_c stepG_region_end
  s_cond false
  s_c stepG_skip
  s_c stepG_seq
  s_reg
  s_op
  s_c stepG_region_end
  s_c stepG_seq
  s_reg
  s_stop
  refine LoneTo.step (step_lone_select_recv_shut (c := c) (cap := 0) (s := 0) (r := 0) (tm := false) (z := .agg #[]) (stepG_comm (cases := #[rcase c (.agg #[])]) (blocking := false) (shape := .select) (w' := w) rfl rfl (by decide) (by simp [go_sem, execOp, rcase, Act.eval])) hc) ?_
  rw [Frame.finish_at]
  walk_nrm
  refine LoneTo.goes (n := 40) ?_
  s_op
  s_op
  s_c stepG_region_end
  s_c stepG_block
  s_cond true
  s_c stepG_seq
  s_reg
  s_op
  s_c stepG_region_end
  s_c stepG_ret'
  s_stop
  exact LoneTo.done ⟨.returned (.bool true), _, rfl, ⟨rfl, rfl⟩, rfl, rfl, rfl, rfl, _, Yba.func6, by simp [results, Yba.f6, Frame.at]⟩
set_option maxRecDepth 100000 in
theorem closed_open (c : Nat) (w : World) (hc : w.heap[c]? = some (.chan 0 #[] false 0 0 false)) : Calls Yba.prog 6 #[.chan (some c)] w fun e w' => e = .returned (.bool false) ∧ w' = w := by
  refine calls_of_loneTo fun cs => ?_
  have e : Frame.enter Yba.prog 6 #[.chan (some c)] .normal = (base 6).at ⟨#[.chan (some c), undef, undef, undef, undef, undef, undef, undef, undef], []⟩ [.code (Yba.f6.body.getD .skip)] := by
    simp [Frame.enter, Frame.at, Yba.func6, base, Yba.f6]
  rw [e]
  have hen := eq_nil c
  refine LoneTo.goes (n := 40) ?_
  simp only [Yba.f6, Option.getD_some]
  s_c stepG_seq
  s_reg
  s_op
  s_c stepG_region_end
  s_c stepG_seq
  s_c stepG_seq
  s_reg
  s_op
  s_op
  s_c stepG_region_end
  s_cond false
  s_c stepG_skip
  s_c stepG_seq
  s_reg
  s_op
  s_c stepG_region_end
  s_c stepG_seq
  s_reg
  s_stop
  refine LoneTo.step (step_lone_select_default (c := c) (cap := 0) (s := 0) (r := 0) (tm := false) (z := .agg #[]) (stepG_comm (cases := #[rcase c (.agg #[])]) (blocking := false) (shape := .select) (w' := w) rfl rfl (by decide) (by simp [go_sem, execOp, rcase, Act.eval])) hc) ?_
  rw [Frame.finish_at]
  walk_nrm
  refine LoneTo.goes (n := 40) ?_
  s_op
  s_op
  s_c stepG_region_end
  s_c stepG_block
  s_cond false
  s_c stepG_seq
  s_reg
  s_op
  s_c stepG_region_end
  s_c stepG_ret'
  s_stop
  exact LoneTo.done ⟨.returned (.bool false), _, rfl, ⟨rfl, rfl⟩, rfl, rfl, rfl, rfl, _, Yba.func6, by simp [results, Yba.f6, Frame.at]⟩
end Go.Proofs.Ybulkdqts.E
