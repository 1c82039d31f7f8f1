/- THE CONTRACT OF '(*boundedConn).isClosed': a select of one receive with a default, in one goroutine (Derived/Conc/LoneSelect.lean): over an open, empty channel: false · over a closed, empty channel: true · over the nil channel: false. The world is as it was. -/
import Derived.Test.YbulkbvwqProg
import Derived.Conc.LoneSelect
import Derived.KernelRfl
import Derived.Laws.Rows
import Derived.WalkKit
namespace Go.Proofs.Ybulkbvwq
open Go.Conc Go.RowKit

theorem enter5 (v : Value) : Frame.enter Yba.prog 5 #[v] .normal = (base 5).at ⟨#[v, undef, undef, undef, undef, undef, undef, undef, undef, undef], []⟩ [.code (Yba.f5.body.getD .skip)] := by
  simp [Frame.enter, Frame.at, Yba.func5, base, Yba.f5]

set_option maxRecDepth 100000 in
theorem closed_open {b c cap s r : Nat} {tm : Bool} {w : World} (hc : w.cell? ⟨b, 2, none⟩ = some (.chan (some c))) (hch : w.heap[c]? = some (.chan cap #[] false s r tm)) :
    Calls Yba.prog 5 #[.pointer (some ⟨b, 0, none⟩)] w fun e w' => e = .returned (.bool false) ∧ w' = w := by
  refine calls_of_loneTo fun cs => ?_
  rw [enter5]
  refine LoneTo.goes (n := 13) ?_
  simp only [Yba.f5, Option.getD_some]
  s_c stepG_seq
  s_reg
  s_op
  s_c stepG_region_end
  s_c stepG_seq
  s_reg
  s_op
  s_op
  s_op
  s_op
  s_c stepG_region_end
  s_c stepG_seq
  s_reg
  s_stop
  refine LoneTo.step (step_lone_select_default (c := c) (z := .agg #[]) (cap := cap) (s := s) (r := r) (tm := tm) (stepG_comm (cases := #[rcase c (.agg #[])]) (blocking := false) (shape := .select) (w' := w) rfl rfl (by decide) (by simp [go_sem, execOp, rcase, Act.eval])) hch) ?_
  rw [Frame.finish_at]
  walk_nrm
  refine LoneTo.goes (n := 10) ?_
  s_op
  s_op
  s_c stepG_region_end
  s_c stepG_block
  s_cond false
  s_c stepG_seq
  s_reg
  s_op
  s_c stepG_region_end
  s_c stepG_ret'
  s_stop
  exact LoneTo.done ⟨.returned (.bool false), _, rfl, ⟨rfl, rfl⟩, rfl, rfl, rfl, rfl, _, Yba.func5, by simp [results, Yba.f5, Frame.at]⟩

set_option maxRecDepth 100000 in
theorem closed_shut {b c cap s r : Nat} {tm : Bool} {w : World} (hc : w.cell? ⟨b, 2, none⟩ = some (.chan (some c))) (hch : w.heap[c]? = some (.chan cap #[] true s r tm)) :
    Calls Yba.prog 5 #[.pointer (some ⟨b, 0, none⟩)] w fun e w' => e = .returned (.bool true) ∧ w' = w := by
  refine calls_of_loneTo fun cs => ?_
  rw [enter5]
  refine LoneTo.goes (n := 13) ?_
  simp only [Yba.f5, Option.getD_some]
  s_c stepG_seq
  s_reg
  s_op
  s_c stepG_region_end
  s_c stepG_seq
  s_reg
  s_op
  s_op
  s_op
  s_op
  s_c stepG_region_end
  s_c stepG_seq
  s_reg
  s_stop
  refine LoneTo.step (step_lone_select_recv_shut (c := c) (z := .agg #[]) (cap := cap) (s := s) (r := r) (tm := tm) (stepG_comm (cases := #[rcase c (.agg #[])]) (blocking := false) (shape := .select) (w' := w) rfl rfl (by decide) (by simp [go_sem, execOp, rcase, Act.eval])) hch) ?_
  rw [Frame.finish_at]
  walk_nrm
  refine LoneTo.goes (n := 10) ?_
  s_op
  s_op
  s_c stepG_region_end
  s_c stepG_block
  s_cond true
  s_c stepG_seq
  s_reg
  s_op
  s_c stepG_region_end
  s_c stepG_ret'
  s_stop
  exact LoneTo.done ⟨.returned (.bool true), _, rfl, ⟨rfl, rfl⟩, rfl, rfl, rfl, rfl, _, Yba.func5, by simp [results, Yba.f5, Frame.at]⟩

set_option maxRecDepth 100000 in
theorem closed_nil {b : Nat} {w : World} (hc : w.cell? ⟨b, 2, none⟩ = some (.chan none)) :
    Calls Yba.prog 5 #[.pointer (some ⟨b, 0, none⟩)] w fun e w' => e = .returned (.bool false) ∧ w' = w := by
  refine calls_of_loneTo fun cs => ?_
  rw [enter5]
  refine LoneTo.goes (n := 13) ?_
  simp only [Yba.f5, Option.getD_some]
  s_c stepG_seq
  s_reg
  s_op
  s_c stepG_region_end
  s_c stepG_seq
  s_reg
  s_op
  s_op
  s_op
  s_op
  s_c stepG_region_end
  s_c stepG_seq
  s_reg
  s_stop
  refine LoneTo.step (step_lone_select_recv_nil (z := .agg #[]) (stepG_comm (cases := #[rcaseNil (.agg #[])]) (blocking := false) (shape := .select) (w' := w) rfl rfl (by decide) (by simp [go_sem, execOp, rcaseNil, Act.eval]))) ?_
  rw [Frame.finish_at]
  walk_nrm
  refine LoneTo.goes (n := 10) ?_
  s_op
  s_op
  s_c stepG_region_end
  s_c stepG_block
  s_cond false
  s_c stepG_seq
  s_reg
  s_op
  s_c stepG_region_end
  s_c stepG_ret'
  s_stop
  exact LoneTo.done ⟨.returned (.bool false), _, rfl, ⟨rfl, rfl⟩, rfl, rfl, rfl, rfl, _, Yba.func5, by simp [results, Yba.f5, Frame.at]⟩
end Go.Proofs.Ybulkbvwq
