/- For every message and address list that hold together at most 1048576 values and letters, laws.FnWhere returns true and its argument reads afterwards as before; conditions: the package-level variables that the row lists hold what the program text lays in them (the tied card), no other condition. -/
import Derived.Test.YtfcllhdhfenmcaaGreatDoorK01
import Derived.Test.YtfcllhdhfenmcaaGreatDoorK38
import Derived.Test.YtfcllhdhfenmcaaGreatDoorK39
set_option linter.all false
set_option maxHeartbeats 8000000
set_option maxRecDepth 100000
namespace Go.Proofs.YtfcllhdhfenmcaaGreatDoor.fnWhere
open Go.ChangeShapes Go.WideShapes Go.ChangeAt Go.RowKit
theorem said : Rows.FnWhereUptoSaid :=
 OpenClaim.holds_of_cond 3 Tryz.f3 rfl rfl rfl rfl rfl rfl rfl ⟨rfl, rfl, rfl, rfl, rfl⟩ rfl rfl rfl rfl rfl c_named Tryz.func3 c_closed c_inst c_wrap
  (fun os started H enc _ F => by rw [OpenClaim.pre_eq_preRow]; exact lifted os started H enc F)
theorem plain (f : FuncId) (fn : Func) (hf : Tryz.pinned.checked.prog.funcNamed "pub-hailwright/laws.FnWhere" = some f) (hfn : Tryz.pinned.checked.prog.funcs[f]? = some fn) :
 true = Tryz.pinned.checked.prog.looks [] ∧ ∀ (j : Nat) t, fn.params[j]? = some t → Tryz.pinned.checked.prog.wantsStandIn t = false := by
 obtain rfl : f = 3 := Option.some.inj ((show Tryz.prog.funcNamed "pub-hailwright/laws.FnWhere" = some 3 by kernel_rfl).symm.trans hf) |>.symm
 obtain rfl : fn = Tryz.f3 := (Option.some.inj (Tryz.func3.symm.trans hfn)).symm
 refine ⟨by kernel_rfl, fun j t ht => ?_⟩
 rw [Tryz.params3] at ht
 obtain rfl : t = 28 := by simpa using Array.mem_of_getElem? ht
 exact (show Tryz.prog.wantsStandIn 28 = false by kernel_rfl)
theorem card : Rows.FnWhereUptoCardSaid :=
 Claim7.holds_tied_plain_at .later [] _ _ _ _ said (fun _ h => by cases h) (by kernel_rfl) (fun _ h => by cases h) fnWhereUpto_row_tie rfl ⟨rfl, rfl⟩ (by kernel_rfl) rfl plain (by kernel_rfl)
end Go.Proofs.YtfcllhdhfenmcaaGreatDoor.fnWhere
