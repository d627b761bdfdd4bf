/-
  zzs1586bclosed: a select of one receive with a default: on an open, empty channel false; on a closed one true. One goroutine.
-/
import Derived.Test.YbulkafvaRows
import Derived.Conc.LoneSelect
import Derived.KernelRfl
import Derived.Laws.Rows
namespace Go.Proofs.Ybulkafva
open Go.Conc Go.RowKit

set_option maxRecDepth 100000 in
/-- on an open, empty channel: false; nothing turns -/
theorem closed_no (c cap s r : Nat) (tm : Bool) (w : World) (hc : w.heap[c]? = some (.chan cap #[] false s r tm)) :
    Calls Yba.prog 6 #[.chan (some c)] w fun e w' => e = .returned (.bool false) ∧ w' = w := by
  refine calls_of_loneTo fun cs => ?_
  have e : Frame.enter Yba.prog 6 #[.chan (some c)] .normal = (base 6).at ⟨#[.chan (some c), undef, undef, undef, undef, undef, undef], []⟩ [.code (Yba.f6.body.getD .skip)] := by
    simp [Frame.enter, Frame.at, Yba.func6, base, Yba.f6]
  rw [e]
  refine LoneTo.goes (n := 10) ?_
  simp only [Yba.f6, Option.getD_some]
  s_c stepG_seq
  s_reg
  s_op
  s_c stepG_region_end
  s_c stepG_seq
  s_reg
  s_op
  s_c stepG_region_end
  s_c stepG_seq
  s_reg
  s_stop
  refine LoneTo.step (step_lone_select_default (c := c) (z := .agg #[]) (cap := cap) (s := s) (r := r) (tm := tm) (stepG_comm (cases := #[rcase c (.agg #[])]) (blocking := false) (shape := .select) (w' := w) rfl rfl (by decide) (by simp [go_sem, execOp, rcase, Act.eval])) hc) ?_
  rw [Frame.finish_at]
  walk_nrm
  refine LoneTo.goes (n := 10) ?_
  s_op
  s_op
  s_c stepG_region_end
  s_c stepG_block
  s_cond false
  s_c stepG_seq
  s_reg
  s_op
  s_c stepG_region_end
  s_c stepG_ret'
  s_stop
  exact LoneTo.done ⟨.returned (.bool false), _, rfl, ⟨rfl, rfl⟩, rfl, rfl, rfl, rfl, _, Yba.func6, by simp [results, Yba.f6, Frame.at]⟩

set_option maxRecDepth 100000 in
/-- on a closed, empty channel: true; nothing turns -/
theorem closed_yes (c cap s r : Nat) (tm : Bool) (w : World) (hc : w.heap[c]? = some (.chan cap #[] true s r tm)) :
    Calls Yba.prog 6 #[.chan (some c)] w fun e w' => e = .returned (.bool true) ∧ w' = w := by
  refine calls_of_loneTo fun cs => ?_
  have e : Frame.enter Yba.prog 6 #[.chan (some c)] .normal = (base 6).at ⟨#[.chan (some c), undef, undef, undef, undef, undef, undef], []⟩ [.code (Yba.f6.body.getD .skip)] := by
    simp [Frame.enter, Frame.at, Yba.func6, base, Yba.f6]
  rw [e]
  refine LoneTo.goes (n := 10) ?_
  simp only [Yba.f6, Option.getD_some]
  s_c stepG_seq
  s_reg
  s_op
  s_c stepG_region_end
  s_c stepG_seq
  s_reg
  s_op
  s_c stepG_region_end
  s_c stepG_seq
  s_reg
  s_stop
  refine LoneTo.step (step_lone_select_recv_shut (c := c) (z := .agg #[]) (cap := cap) (s := s) (r := r) (tm := tm) (stepG_comm (cases := #[rcase c (.agg #[])]) (blocking := false) (shape := .select) (w' := w) rfl rfl (by decide) (by simp [go_sem, execOp, rcase, Act.eval])) hc) ?_
  rw [Frame.finish_at]
  walk_nrm
  refine LoneTo.goes (n := 10) ?_
  s_op
  s_op
  s_c stepG_region_end
  s_c stepG_block
  s_cond true
  s_c stepG_seq
  s_reg
  s_op
  s_c stepG_region_end
  s_c stepG_ret'
  s_stop
  exact LoneTo.done ⟨.returned (.bool true), _, rfl, ⟨rfl, rfl⟩, rfl, rfl, rfl, rfl, _, Yba.func6, by simp [results, Yba.f6, Frame.at]⟩
end Go.Proofs.Ybulkafva
