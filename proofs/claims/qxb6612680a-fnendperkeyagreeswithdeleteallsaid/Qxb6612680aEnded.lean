import Derived.Test.Qxb6612680aEnd
namespace Go.Proofs.Qxb6612680a
open Go.Conc Go.RowKit

set_option maxRecDepth 100000 in
theorem ended_yes (eb ch : Nat) (cr us : Int) (u : ByteArray) (w : World) (he : w.heap[eb]? = some (.cells (entryCells u cr us ch) 66)) (hch : w.heap[ch]? = some (.chan 0 #[] true 0 0 false)) :
    Calls Try.prog 14 #[.pointer (some ⟨eb, 0, none⟩)] w fun e w' => e = .returned (.bool true) ∧ w' = w := by
  have hc : w.cell? ⟨eb, 13, none⟩ = some (.chan (some ch)) := by simp [World.cell?, he, entryCells]
  refine calls_of_loneTo fun cs => ?_
  have e : Frame.enter Try.prog 14 #[.pointer (some ⟨eb, 0, none⟩)] .normal = (base 14).at ⟨#[.pointer (some ⟨eb, 0, none⟩), undef, undef, undef, undef, undef, undef, undef, undef, undef], []⟩ [.code (Try.f14.body.getD .skip)] := by
    simp [Frame.enter, Frame.at, Try.func14, base, Try.f14]
  rw [e]
  refine LoneTo.goes (n := 13) ?_
  simp only [Try.f14, Option.getD_some]
  s_c stepG_seq
  s_reg
  s_op
  s_c stepG_region_end
  s_c stepG_seq
  s_reg
  s_op
  s_op
  s_op
  s_op
  s_c stepG_region_end
  s_c stepG_seq
  s_reg
  s_stop
  refine LoneTo.step (step_lone_select_recv_shut (c := ch) (z := .agg #[]) (cap := 0) (s := 0) (r := 0) (tm := false) (stepG_comm (cases := #[rcase ch (.agg #[])]) (blocking := false) (shape := .select) (w' := w) rfl rfl (by decide) (by simp [go_sem, execOp, rcase, Act.eval])) hch) ?_
  rw [Frame.finish_at]
  walk_nrm
  refine LoneTo.goes (n := 10) ?_
  s_op
  s_op
  s_c stepG_region_end
  s_c stepG_block
  s_cond true
  s_c stepG_seq
  s_reg
  s_op
  s_c stepG_region_end
  s_c stepG_ret'
  s_stop
  exact LoneTo.done ⟨.returned (.bool true), _, rfl, ⟨rfl, rfl⟩, rfl, rfl, rfl, rfl, _, Try.func14, by simp [results, Try.f14, Frame.at]⟩

set_option maxRecDepth 100000 in
theorem ended_no (eb ch : Nat) (cr us : Int) (u : ByteArray) (w : World) (he : w.heap[eb]? = some (.cells (entryCells u cr us ch) 66)) (hch : w.heap[ch]? = some (.chan 0 #[] false 0 0 false)) :
    Calls Try.prog 14 #[.pointer (some ⟨eb, 0, none⟩)] w fun e w' => e = .returned (.bool false) ∧ w' = w := by
  have hc : w.cell? ⟨eb, 13, none⟩ = some (.chan (some ch)) := by simp [World.cell?, he, entryCells]
  refine calls_of_loneTo fun cs => ?_
  have e : Frame.enter Try.prog 14 #[.pointer (some ⟨eb, 0, none⟩)] .normal = (base 14).at ⟨#[.pointer (some ⟨eb, 0, none⟩), undef, undef, undef, undef, undef, undef, undef, undef, undef], []⟩ [.code (Try.f14.body.getD .skip)] := by
    simp [Frame.enter, Frame.at, Try.func14, base, Try.f14]
  rw [e]
  refine LoneTo.goes (n := 13) ?_
  simp only [Try.f14, Option.getD_some]
  s_c stepG_seq
  s_reg
  s_op
  s_c stepG_region_end
  s_c stepG_seq
  s_reg
  s_op
  s_op
  s_op
  s_op
  s_c stepG_region_end
  s_c stepG_seq
  s_reg
  s_stop
  refine LoneTo.step (step_lone_select_default (c := ch) (z := .agg #[]) (cap := 0) (s := 0) (r := 0) (tm := false) (stepG_comm (cases := #[rcase ch (.agg #[])]) (blocking := false) (shape := .select) (w' := w) rfl rfl (by decide) (by simp [go_sem, execOp, rcase, Act.eval])) hch) ?_
  rw [Frame.finish_at]
  walk_nrm
  refine LoneTo.goes (n := 10) ?_
  s_op
  s_op
  s_c stepG_region_end
  s_c stepG_block
  s_cond false
  s_c stepG_seq
  s_reg
  s_op
  s_c stepG_region_end
  s_c stepG_ret'
  s_stop
  exact LoneTo.done ⟨.returned (.bool false), _, rfl, ⟨rfl, rfl⟩, rfl, rfl, rfl, rfl, _, Try.func14, by simp [results, Try.f14, Frame.at]⟩
end Go.Proofs.Qxb6612680a
