/-
  THE WALK of pool.get (7): a select of one receive with a default: over the nil channel, and over one that holds a value.
-/
import Derived.Test.YbulkoukRows
import Derived.WalkKit
import Derived.Conc.LoneSelect
import Derived.KernelRfl
namespace Go.Proofs.Ybulkouk.awalks
open Go.Conc Go.RowKit

set_option maxRecDepth 100000 in
/-- pool.get of the nil pool: the zero value. -/
theorem get_nil (w : World) : Calls Yba.prog 7 #[.chan none] w fun e w' => e = .returned (.slice none 0 0) ∧ w' = w := by
  refine calls_of_loneTo fun cs => ?_
  have e : Frame.enter Yba.prog 7 #[.chan none] .normal = (base 7).at ⟨#[.chan none, undef, undef, undef, undef, undef, undef, undef, undef, undef], []⟩ [.code (Yba.f7.body.getD .skip)] := by
    simp [Frame.enter, Frame.at, Yba.func7, base, Yba.f7]
  rw [e]
  refine LoneTo.goes (n := 18) ?_
  simp only [Yba.f7, Option.getD_some]
  s_c stepG_seq
  s_reg
  s_op
  s_c stepG_region_end
  s_c stepG_seq
  s_reg
  s_op
  s_c stepG_region_end
  s_c stepG_seq
  s_c stepG_seq
  s_reg
  s_op
  s_c stepG_region_end
  s_c stepG_seq
  s_reg
  s_stop
  refine LoneTo.step (step_lone_select_recv_nil (z := .slice none 0 0) (stepG_comm (cases := #[rcaseNil (.slice none 0 0)]) (blocking := false) (shape := .select) (w' := w) rfl rfl (by decide) (by simp [go_sem, execOp, rcaseNil, Act.eval]))) ?_
  rw [Frame.finish_at]
  walk_nrm
  refine LoneTo.goes (n := 17) ?_
  s_op
  s_op
  s_c stepG_region_end
  s_c stepG_block
  s_cond false
  s_c stepG_skip
  s_c stepG_inBlock
  s_c stepG_seq
  s_reg
  s_op
  s_op
  s_c stepG_region_end
  s_c stepG_ret'
  s_stop
  exact LoneTo.done ⟨.returned (.slice none 0 0), _, rfl, ⟨rfl, rfl⟩, rfl, rfl, rfl, rfl, _, Yba.func7, by simp [results, Yba.f7, Frame.at]⟩

set_option maxRecDepth 100000 in
/-- pool.get of a pool that holds one value: that value; the pool is empty behind it. -/
theorem get_one (c s : Nat) (v : Value) (w : World) (hc : w.heap[c]? = some (.chan 1 #[v] false s 0 false)) :
    Calls Yba.prog 7 #[.chan (some c)] w fun e w' => e = .returned v ∧ w' = w.setChan c 1 #[] false s 1 false := by
  refine calls_of_loneTo fun cs => ?_
  have e : Frame.enter Yba.prog 7 #[.chan (some c)] .normal = (base 7).at ⟨#[.chan (some c), undef, undef, undef, undef, undef, undef, undef, undef, undef], []⟩ [.code (Yba.f7.body.getD .skip)] := by
    simp [Frame.enter, Frame.at, Yba.func7, base, Yba.f7]
  rw [e]
  refine LoneTo.goes (n := 18) ?_
  simp only [Yba.f7, Option.getD_some]
  s_c stepG_seq
  s_reg
  s_op
  s_c stepG_region_end
  s_c stepG_seq
  s_reg
  s_op
  s_c stepG_region_end
  s_c stepG_seq
  s_c stepG_seq
  s_reg
  s_op
  s_c stepG_region_end
  s_c stepG_seq
  s_reg
  s_stop
  refine LoneTo.step (step_lone_select_recv_buf (c := c) (z := .slice none 0 0) (stepG_comm (cases := #[rcase c (.slice none 0 0)]) (blocking := false) (shape := .select) (w' := w) rfl rfl (by decide) (by simp [go_sem, execOp, rcase, Act.eval])) hc (by simp)) ?_
  rw [Frame.finish_at]
  walk_nrm
  have hx : (#[v].extract 1 1 : Array Value) = #[] := by simp
  refine LoneTo.goes (n := 17) ?_
  s_op
  s_op
  s_c stepG_region_end
  s_c stepG_block
  s_cond true
  s_reg
  s_op
  s_op
  s_c stepG_region_end
  s_c stepG_inBlock
  s_c stepG_seq
  s_reg
  s_op
  s_op
  s_c stepG_region_end
  s_c stepG_ret'
  s_stop
  exact LoneTo.done ⟨.returned v, _, rfl, ⟨rfl, by simp⟩, rfl, rfl, rfl, rfl, _, Yba.func7, by simp [results, Yba.f7, Frame.at]⟩

end Go.Proofs.Ybulkouk.awalks
