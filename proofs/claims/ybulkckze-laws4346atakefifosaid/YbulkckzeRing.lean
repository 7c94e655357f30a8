import Derived.Test.YbulkckzeLocks
import Derived.Conc.LoneSelect
import Derived.KernelRfl
import Derived.Laws.Rows
import Derived.Laws.Runes
import Derived.Laws.Tables
namespace Go.Proofs.Ybulkckze
open Go.Conc Go.RowKit

theorem bd31 (w : World) : (Instr.build 31 #[]).run Yba.prog w = .ok (.agg #[]) w := run_build w 31 #[] #[] (by kernel_rfl)

set_option maxRecDepth 100000 in
/-- 'ring': the bell (a channel of capacity one, empty) is rung. -/
theorem ring (b c : Nat) (w : World) (hb : w.cell? ⟨b, 0, none⟩ = some (.chan (some c))) (hc : w.heap[c]? = some (.chan 1 #[] false 0 0 false)) :
    Calls Yba.prog 14 #[.pointer (some ⟨b, 0, none⟩)] w fun e w' => e = .returned (.tuple #[]) ∧ w' = w.setChan c 1 #[.agg #[]] false 1 0 false := by
  refine calls_of_loneTo fun cs => ?_
  have e : Frame.enter Yba.prog 14 #[.pointer (some ⟨b, 0, none⟩)] .normal = (base 14).at ⟨#[.pointer (some ⟨b, 0, none⟩), undef, undef, undef, undef, undef, undef, undef, undef, undef], []⟩ [.code (Yba.f14.body.getD .skip)] := by
    simp [Frame.enter, Frame.at, Yba.func14, base, Yba.f14]
  rw [e]
  have hbd := bd31
  refine LoneTo.goes (n := 20) ?_
  simp only [Yba.f14, Option.getD_some]
  s_c stepG_seq
  s_c stepG_seq
  s_reg
  s_op
  s_op
  s_op
  s_op
  s_c stepG_region_end
  s_reg
  s_op
  s_c stepG_region_end
  s_c stepG_seq
  s_reg
  s_stop
  refine LoneTo.step (step_lone_select_send_room (c := c) (cap := 1) (buf := #[]) (s := 0) (r := 0) (tm := false) (stepG_comm (cases := #[scase c (.agg #[]) (.agg #[])]) (blocking := false) (shape := .select) (w' := w) rfl rfl (by decide) (by simp [go_sem, execOp, scase, Act.eval])) hc (by simp)) ?_
  rw [Frame.finish_at]
  walk_nrm
  refine LoneTo.goes (n := 20) ?_
  s_op
  s_op
  s_c stepG_region_end
  s_c stepG_block
  s_cond true
  s_c stepG_skip
  s_c stepG_inBlock
  s_c stepG_end
  s_stop
  refine LoneTo.done ⟨.returned (.tuple #[]), _, rfl, ⟨rfl, rfl⟩, rfl, rfl, rfl, rfl, _, Yba.func14, by simp [results, Yba.f14, Frame.at]⟩
end Go.Proofs.Ybulkckze
