/- 'wake' (function 5): the channel has room, or it is full. -/
import Derived.Test.YbulkbprqProg
import Derived.Conc.LoneCalls
import Derived.Conc.LoneSelect
import Derived.KernelRfl
import Derived.Laws.Rows
import Derived.Laws.Tables
namespace Go.Proofs.Ybulkbprq
open Go.Conc Go.RowKit

theorem build24 (w : World) : (Instr.build 24 #[]).run Yba.prog w = .ok (.agg #[]) w := run_build w 24 #[] #[] (by kernel_rfl)
theorem zero24 : (zeroValue 24).run Yba.prog = fun w => .ok (.agg #[]) w := by kernel_rfl

set_option maxRecDepth 100000 in
theorem wake_room (Bo c s r : Nat) (tm : Bool) (w : World) (k1 : w.cell? ⟨Bo, 21, none⟩ = some (.chan (some c))) (hc : w.heap[c]? = some (.chan 1 #[] false s r tm)) :
    Calls Yba.prog 5 #[.pointer (some ⟨Bo, 0, none⟩)] w fun e w' => e = .returned (.tuple #[]) ∧ w' = w.setChan c 1 #[.agg #[]] false (s + 1) r tm := by
  refine calls_of_loneTo fun cs => ?_
  have e : Frame.enter Yba.prog 5 #[.pointer (some ⟨Bo, 0, none⟩)] .normal = (base 5).at ⟨#[.pointer (some ⟨Bo, 0, none⟩), undef, undef, undef, undef, undef, undef, undef, undef, undef], []⟩ [.code (Yba.f5.body.getD .skip)] := by
    simp [Frame.enter, Frame.at, Yba.func5, base, Yba.f5]
  rw [e]
  have hb24 := build24
  refine LoneTo.goes (n := 13) ?_
  simp only [Yba.f5, Option.getD_some]
  s_c stepG_seq
  s_c stepG_seq
  s_reg
  s_op
  s_op
  s_op
  s_op
  s_c stepG_region_end
  s_reg
  s_op
  s_c stepG_region_end
  s_c stepG_seq
  s_reg
  s_stop
  refine LoneTo.step (step_lone_select_send_room (c := c) (cap := 1) (buf := #[]) (s := s) (r := r) (tm := tm) (stepG_comm (cases := #[scase c (.agg #[]) (.agg #[])]) (blocking := false) (shape := .select) (w' := w) rfl rfl (by decide) (by simp [go_sem, execOp, scase, Act.eval])) hc (by simp)) ?_
  rw [Frame.finish_at]
  walk_nrm
  refine LoneTo.goes (n := 8) ?_
  s_op
  s_op
  s_c stepG_region_end
  s_c stepG_block
  s_cond true
  s_c stepG_skip
  s_c stepG_inBlock
  s_c stepG_end
  s_stop
  refine LoneTo.done ⟨.returned (.tuple #[]), _, rfl, ⟨rfl, rfl⟩, rfl, rfl, rfl, rfl, _, Yba.func5, by simp [results, Yba.f5, Frame.at]⟩

set_option maxRecDepth 100000 in
theorem wake_full (Bo c s r : Nat) (v : Value) (tm : Bool) (w : World) (k1 : w.cell? ⟨Bo, 21, none⟩ = some (.chan (some c))) (hc : w.heap[c]? = some (.chan 1 #[v] false s r tm)) :
    Calls Yba.prog 5 #[.pointer (some ⟨Bo, 0, none⟩)] w fun e w' => e = .returned (.tuple #[]) ∧ w' = w := by
  refine calls_of_loneTo fun cs => ?_
  have e : Frame.enter Yba.prog 5 #[.pointer (some ⟨Bo, 0, none⟩)] .normal = (base 5).at ⟨#[.pointer (some ⟨Bo, 0, none⟩), undef, undef, undef, undef, undef, undef, undef, undef, undef], []⟩ [.code (Yba.f5.body.getD .skip)] := by
    simp [Frame.enter, Frame.at, Yba.func5, base, Yba.f5]
  rw [e]
  have hb24 := build24
  refine LoneTo.goes (n := 13) ?_
  simp only [Yba.f5, Option.getD_some]
  s_c stepG_seq
  s_c stepG_seq
  s_reg
  s_op
  s_op
  s_op
  s_op
  s_c stepG_region_end
  s_reg
  s_op
  s_c stepG_region_end
  s_c stepG_seq
  s_reg
  s_stop
  refine LoneTo.step (step_lone_select_send_full (c := c) (cap := 1) (buf := #[v]) (s := s) (r := r) (tm := tm) (stepG_comm (cases := #[scase c (.agg #[]) (.agg #[])]) (blocking := false) (shape := .select) (w' := w) rfl rfl (by decide) (by simp [go_sem, execOp, scase, Act.eval])) hc (by simp)) ?_
  rw [Frame.finish_at]
  walk_nrm
  refine LoneTo.goes (n := 8) ?_
  s_op
  s_op
  s_c stepG_region_end
  s_c stepG_block
  s_cond false
  s_c stepG_skip
  s_c stepG_inBlock
  s_c stepG_end
  s_stop
  refine LoneTo.done ⟨.returned (.tuple #[]), _, rfl, ⟨rfl, rfl⟩, rfl, rfl, rfl, rfl, _, Yba.func5, by simp [results, Yba.f5, Frame.at]⟩
end Go.Proofs.Ybulkbprq
