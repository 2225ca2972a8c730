/-
  (*node.session).signal on a session whose wake channel is nil: the select takes its default; nothing turns.
-/
import Derived.Test.YbulkcnfiRows
import Derived.Conc.LoneSelect
import Derived.KernelRfl
import Derived.Laws.Rows
import Derived.Laws.Runes
import Derived.Laws.Tables
namespace Go.Proofs.Ybulkcnfi
open Go.Conc Go.RowKit

theorem bd (w : World) : (Instr.build 36 #[]).run Yba.prog w = .ok (.agg #[]) w := run_build w 36 #[] #[] (by kernel_rfl)

set_option maxRecDepth 100000 in
theorem signal_any (s : Nat) (w : World) (hc : w.cell? ⟨s, 3, none⟩ = some (.chan none)) :
    Calls Yba.prog 15 #[.pointer (some ⟨s, 0, none⟩)] w fun e w' => e = .returned (.tuple #[]) ∧ w' = w := by
  refine calls_of_loneTo fun cs => ?_
  have e : Frame.enter Yba.prog 15 #[.pointer (some ⟨s, 0, none⟩)] .normal = (base 15).at ⟨#[.pointer (some ⟨s, 0, none⟩), undef, undef, undef, undef, undef, undef, undef, undef, undef], []⟩ [.code (Yba.f15.body.getD .skip)] := by
    simp [Frame.enter, Frame.at, Yba.func15, base, Yba.f15]
  rw [e]
  have hbd := bd
  refine LoneTo.goes (n := 50) ?_
  simp only [Yba.f15, Option.getD_some]
  s_c stepG_seq
  s_c stepG_seq
  s_reg
  s_op
  s_op
  s_op
  s_op
  s_c stepG_region_end
  s_reg
  s_op
  s_c stepG_region_end
  s_c stepG_seq
  s_reg
  s_stop
  refine LoneTo.step (step_lone_select_send_nil (stepG_comm (cases := #[scaseNil (.agg #[]) (.agg #[])]) (blocking := false) (shape := .select) (w' := w) rfl rfl (by decide) (by simp [go_sem, execOp, scaseNil, Act.eval]))) ?_
  rw [Frame.finish_at]
  walk_nrm
  refine LoneTo.goes (n := 20) ?_
  s_op
  s_op
  s_c stepG_region_end
  s_c stepG_block
  s_cond false
  s_c stepG_skip
  s_c stepG_inBlock
  s_c stepG_end
  s_stop
  exact LoneTo.done ⟨.returned (.tuple #[]), _, rfl, ⟨rfl, rfl⟩, rfl, rfl, rfl, rfl, _, Yba.func15, by simp [results, Yba.f15, Frame.at]⟩
end Go.Proofs.Ybulkcnfi
