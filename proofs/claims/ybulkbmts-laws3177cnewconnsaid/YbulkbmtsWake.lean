import Derived.Test.YbulkbmtsRows
import Derived.Conc.LoneSelect
import Derived.KernelRfl
import Derived.Laws.Rows
import Derived.Laws.Runes
import Derived.Laws.Tables
namespace Go.Proofs.Ybulkbmts.lawS3177CNewConn
open Go.Conc Go.RowKit

theorem bd24 (w : World) : (Instr.build 24 #[]).run Yba.prog w = .ok (.agg #[]) w := run_build w 24 #[] #[] (by kernel_rfl)

set_option maxRecDepth 100000 in
/-- wakeWriter where the channel has room: one signal goes into the buffer. -/
theorem wake_room (b off c : Nat) (w : World) (hcell : w.cell? ⟨b, off + 2, none⟩ = some (.chan (some c))) (hc : w.heap[c]? = some (.chan 1 #[] false 0 0 false)) :
    Calls Yba.prog 5 #[.pointer (some ⟨b, off, none⟩)] w fun e w' => e = .returned (.tuple #[]) ∧ w' = w.setChan c 1 #[.agg #[]] false 1 0 false := by
  refine calls_of_loneTo fun cs => ?_
  have e : Frame.enter Yba.prog 5 #[.pointer (some ⟨b, off, none⟩)] .normal = (base 5).at ⟨#[.pointer (some ⟨b, off, none⟩), undef, undef, undef, undef, undef, undef, undef, undef, undef], []⟩ [.code (Yba.f5.body.getD .skip)] := by
    simp [Frame.enter, Frame.at, Yba.func5, base, Yba.f5]
  rw [e]
  have hbd := bd24
  refine LoneTo.goes (n := 50) ?_
  simp only [Yba.f5, Option.getD_some]
  s_c stepG_seq
  s_c stepG_seq
  s_reg
  s_op
  s_op
  s_op
  s_op
  s_c stepG_region_end
  s_reg
  s_op
  s_c stepG_region_end
  s_c stepG_seq
  s_reg
  s_stop
  refine LoneTo.step (step_lone_select_send_room (c := c) (cap := 1) (buf := #[]) (s := 0) (r := 0) (tm := false) (stepG_comm (cases := #[scase c (.agg #[]) (.agg #[])]) (blocking := false) (shape := .select) (w' := w) rfl rfl (by decide) (by simp [go_sem, execOp, scase, Act.eval])) hc (by simp)) ?_
  rw [Frame.finish_at]
  walk_nrm
  refine LoneTo.goes (n := 20) ?_
  s_op
  s_op
  s_c stepG_region_end
  s_c stepG_block
  s_cond true
  s_c stepG_skip
  s_c stepG_inBlock
  s_c stepG_end
  s_stop
  exact LoneTo.done ⟨.returned (.tuple #[]), _, rfl, ⟨rfl, rfl⟩, rfl, rfl, rfl, rfl, _, Yba.func5, results_none Yba.results5 _ _ _⟩

set_option maxRecDepth 100000 in
/-- wakeWriter where the channel is full: the default; nothing turns. -/
theorem wake_full (b off c : Nat) (w : World) (hcell : w.cell? ⟨b, off + 2, none⟩ = some (.chan (some c))) (hc : w.heap[c]? = some (.chan 1 #[.agg #[]] false 1 0 false)) :
    Calls Yba.prog 5 #[.pointer (some ⟨b, off, none⟩)] w fun e w' => e = .returned (.tuple #[]) ∧ w' = w := by
  refine calls_of_loneTo fun cs => ?_
  have e : Frame.enter Yba.prog 5 #[.pointer (some ⟨b, off, none⟩)] .normal = (base 5).at ⟨#[.pointer (some ⟨b, off, none⟩), undef, undef, undef, undef, undef, undef, undef, undef, undef], []⟩ [.code (Yba.f5.body.getD .skip)] := by
    simp [Frame.enter, Frame.at, Yba.func5, base, Yba.f5]
  rw [e]
  have hbd := bd24
  refine LoneTo.goes (n := 50) ?_
  simp only [Yba.f5, Option.getD_some]
  s_c stepG_seq
  s_c stepG_seq
  s_reg
  s_op
  s_op
  s_op
  s_op
  s_c stepG_region_end
  s_reg
  s_op
  s_c stepG_region_end
  s_c stepG_seq
  s_reg
  s_stop
  refine LoneTo.step (step_lone_select_send_full (c := c) (cap := 1) (buf := #[.agg #[]]) (s := 1) (r := 0) (tm := false) (stepG_comm (cases := #[scase c (.agg #[]) (.agg #[])]) (blocking := false) (shape := .select) (w' := w) rfl rfl (by decide) (by simp [go_sem, execOp, scase, Act.eval])) hc (by simp)) ?_
  rw [Frame.finish_at]
  walk_nrm
  refine LoneTo.goes (n := 20) ?_
  s_op
  s_op
  s_c stepG_region_end
  s_c stepG_block
  s_cond false
  s_c stepG_skip
  s_c stepG_inBlock
  s_c stepG_end
  s_stop
  exact LoneTo.done ⟨.returned (.tuple #[]), _, rfl, ⟨rfl, rfl⟩, rfl, rfl, rfl, rfl, _, Yba.func5, results_none Yba.results5 _ _ _⟩
end Go.Proofs.Ybulkbmts.lawS3177CNewConn
