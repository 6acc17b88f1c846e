/- Part 39 of the proof: laws and walks (merged by a program). -/
import Derived.Test.YtfcllhdhfenmcaaGreatDoorK01
import Derived.Test.YtfcllhdhfenmcaaGreatDoorK37
set_option linter.all false
set_option maxHeartbeats 8000000
set_option maxRecDepth 100000
namespace Go.Proofs.YtfcllhdhfenmcaaGreatDoor.fnWhere
open Go.ChangeShapes Go.WideShapes Go.ChangeAt Go.RowKit
theorem c_named : Tryz.pinned.checked.prog.funcNamed Rows.fnWhereUptoRow.func = some 3 := by kernel_rfl
theorem c_closed : joinedFacts Tryz.pinned.checked.prog 3 Tryz.f3 (Rows.OpenSpec.upto Rows.fnWhereSpec).bare Rows.fnWhereUptoRow = true := by
 unfold joinedFacts
 repeat (refine Bool.and_eq_true_iff.2 ⟨?_, by as_aux_lemma => kernel_rfl⟩)
 as_aux_lemma => kernel_rfl
theorem c_inst : Tryz.f3.isInstance Tryz.pinned.checked.prog Rows.fnWhereUptoRow.origin Rows.fnWhereUptoRow.targs := of_decide_eq_true (by kernel_rfl)
theorem c_wrap : Tryz.f3.isWrapper Tryz.pinned.checked.prog Rows.fnWhereUptoRow.wrapper Rows.fnWhereUptoRow.mainSum := by
 unfold Func.isWrapper
 first | (rw [if_pos (by decide +kernel)]; kernel_rfl) | (rw [if_neg (by decide +kernel)]; exact ⟨rfl, rfl⟩)
end Go.Proofs.YtfcllhdhfenmcaaGreatDoor.fnWhere
