/- Part 19 of the proof: laws and walks (merged by a program). -/
import Derived.Test.YtfcllhdhfenmcaaGreatDoorK01
import Derived.Test.YtfcllhdhfenmcaaGreatDoorK18
set_option linter.all false
set_option maxHeartbeats 8000000
set_option maxRecDepth 100000
namespace Go.Proofs.YtfcllhdhfenmcaaGreatDoor
open Go.RowKit Go.Proofs.Tryz
def upLow (c : UInt8) : UInt8 := if 65 ≤ c.toNat ∧ c.toNat ≤ 90 then UInt8.ofNat (c.toNat + 32) else c
def lowS (s : ByteArray) : ByteArray := ⟨(s.data.toList.map upLow).toArray⟩
def LowOK : Prop := ∀ (s : ByteArray) (w : World), s.size ≤ 100000000 → Calls Tryz.prog 75 #[.string s] w fun e w' => e = .returned (.string (lowS s)) ∧ Below w.heap.size w w'
theorem yf_strne {P : Program} {ops : Array Oper} {S : World → Prop} {o : Oper} {a : Act} (hw : Region.wanted o (yielded ops a.tmps) = true) (T T' : TypeId) (x y : Operand) (ho : o.op = .binOp .eql T x y T') (s c : ByteArray) (hx : a.eval x = .string s) (hy : a.eval y = .string c) (hne : s ≠ c) : YieldsIf P ops S o (.bool false) a :=
 .inl ⟨hw, fun w _ => by
  unfold execOp
  have hl : ¬ s.toList = c.toList := fun e => hne (by rw [ByteArray.toList_eq, ByteArray.toList_eq] at e; cases s; cases c; simp at e; simp [e])
  simp [ho, hx, hy, eqGuard, binOp, Op.stringOp, hl]⟩
theorem low_0 (w : World) : Calls Tryz.prog 221 #[.string ⟨#[86, 105, 97]⟩] w fun e w' => e = .returned (.string (lowS ⟨#[86, 105, 97]⟩)) ∧ Below w.heap.size w w' := by
 have hl : lowS ⟨#[86, 105, 97]⟩ = ⟨#[118, 105, 97]⟩ := by kernel_rfl
 rw [hl]
 clear hl
 go_enter func221, ntmps221
 go_upto_region 0 with fail
 refine pS [_] ?_
 go_upto_region 1 with fail
 refine pS [_] ?_
 go_upto_region 2 with fail
 refine pS [.bool true, _] ?_
 go_upto_region 4 with fail
 refine pS [_] ?_
 go_wp2
 go_ret
 exact ⟨rfl, Below.refl _ _⟩
theorem low_1 (w : World) : Calls Tryz.prog 221 #[.string ⟨#[118, 105, 97]⟩] w fun e w' => e = .returned (.string (lowS ⟨#[118, 105, 97]⟩)) ∧ Below w.heap.size w w' := by
 have hl : lowS ⟨#[118, 105, 97]⟩ = ⟨#[118, 105, 97]⟩ := by kernel_rfl
 rw [hl]
 clear hl
 go_enter func221, ntmps221
 go_upto_region 0 with fail
 refine pS [_] ?_
 go_upto_region 1 with fail
 refine pS [_] ?_
 go_upto_region 2 with fail
 refine pS [.bool false, _] ?_
 go_upto_region 3 with fail
 refine pS [.bool true, _] ?_
 go_upto_region 4 with fail
 refine pS [_] ?_
 go_wp2
 go_ret
 exact ⟨rfl, Below.refl _ _⟩
theorem low_2 (w : World) : Calls Tryz.prog 221 #[.string ⟨#[70, 114, 111, 109]⟩] w fun e w' => e = .returned (.string (lowS ⟨#[70, 114, 111, 109]⟩)) ∧ Below w.heap.size w w' := by
 have hl : lowS ⟨#[70, 114, 111, 109]⟩ = ⟨#[102, 114, 111, 109]⟩ := by kernel_rfl
 rw [hl]
 clear hl
 go_enter func221, ntmps221
 go_upto_region 0 with fail
 refine pS [_] ?_
 go_upto_region 1 with fail
 refine pS [_] ?_
 go_upto_region 2 with fail
 refine pS [.bool false, _] ?_
 go_upto_region 3 with fail
 refine pS [.bool false, _] ?_
 go_upto_region 5 with fail
 refine pS [.bool true, _] ?_
 go_upto_region 7 with fail
 refine pS [_] ?_
 go_wp2
 go_ret
 exact ⟨rfl, Below.refl _ _⟩
theorem low_3 (w : World) : Calls Tryz.prog 221 #[.string ⟨#[102, 114, 111, 109]⟩] w fun e w' => e = .returned (.string (lowS ⟨#[102, 114, 111, 109]⟩)) ∧ Below w.heap.size w w' := by
 have hl : lowS ⟨#[102, 114, 111, 109]⟩ = ⟨#[102, 114, 111, 109]⟩ := by kernel_rfl
 rw [hl]
 clear hl
 go_enter func221, ntmps221
 go_upto_region 0 with fail
 refine pS [_] ?_
 go_upto_region 1 with fail
 refine pS [_] ?_
 go_upto_region 2 with fail
 refine pS [.bool false, _] ?_
 go_upto_region 3 with fail
 refine pS [.bool false, _] ?_
 go_upto_region 5 with fail
 refine pS [.bool false, _] ?_
 go_upto_region 6 with fail
 refine pS [.bool true, _] ?_
 go_upto_region 7 with fail
 refine pS [_] ?_
 go_wp2
 go_ret
 exact ⟨rfl, Below.refl _ _⟩
theorem low_4 (w : World) : Calls Tryz.prog 221 #[.string ⟨#[84, 111]⟩] w fun e w' => e = .returned (.string (lowS ⟨#[84, 111]⟩)) ∧ Below w.heap.size w w' := by
 have hl : lowS ⟨#[84, 111]⟩ = ⟨#[116, 111]⟩ := by kernel_rfl
 rw [hl]
 clear hl
 go_enter func221, ntmps221
 go_upto_region 0 with fail
 refine pS [_] ?_
 go_upto_region 1 with fail
 refine pS [_] ?_
 go_upto_region 2 with fail
 refine pS [.bool false, _] ?_
 go_upto_region 3 with fail
 refine pS [.bool false, _] ?_
 go_upto_region 5 with fail
 refine pS [.bool false, _] ?_
 go_upto_region 6 with fail
 refine pS [.bool false, _] ?_
 go_upto_region 8 with fail
 refine pS [.bool true, _] ?_
 go_upto_region 10 with fail
 refine pS [_] ?_
 go_wp2
 go_ret
 exact ⟨rfl, Below.refl _ _⟩
theorem low_5 (w : World) : Calls Tryz.prog 221 #[.string ⟨#[116, 111]⟩] w fun e w' => e = .returned (.string (lowS ⟨#[116, 111]⟩)) ∧ Below w.heap.size w w' := by
 have hl : lowS ⟨#[116, 111]⟩ = ⟨#[116, 111]⟩ := by kernel_rfl
 rw [hl]
 clear hl
 go_enter func221, ntmps221
 go_upto_region 0 with fail
 refine pS [_] ?_
 go_upto_region 1 with fail
 refine pS [_] ?_
 go_upto_region 2 with fail
 refine pS [.bool false, _] ?_
 go_upto_region 3 with fail
 refine pS [.bool false, _] ?_
 go_upto_region 5 with fail
 refine pS [.bool false, _] ?_
 go_upto_region 6 with fail
 refine pS [.bool false, _] ?_
 go_upto_region 8 with fail
 refine pS [.bool false, _] ?_
 go_upto_region 9 with fail
 refine pS [.bool true, _] ?_
 go_upto_region 10 with fail
 refine pS [_] ?_
 go_wp2
 go_ret
 exact ⟨rfl, Below.refl _ _⟩
theorem low_6 (w : World) : Calls Tryz.prog 221 #[.string ⟨#[67, 97, 108, 108, 45, 73, 68]⟩] w fun e w' => e = .returned (.string (lowS ⟨#[67, 97, 108, 108, 45, 73, 68]⟩)) ∧ Below w.heap.size w w' := by
 have hl : lowS ⟨#[67, 97, 108, 108, 45, 73, 68]⟩ = ⟨#[99, 97, 108, 108, 45, 105, 100]⟩ := by kernel_rfl
 rw [hl]
 clear hl
 go_enter func221, ntmps221
 go_upto_region 0 with fail
 refine pS [_] ?_
 go_upto_region 1 with fail
 refine pS [_] ?_
 go_upto_region 2 with fail
 refine pS [.bool false, _] ?_
 go_upto_region 3 with fail
 refine pS [.bool false, _] ?_
 go_upto_region 5 with fail
 refine pS [.bool false, _] ?_
 go_upto_region 6 with fail
 refine pS [.bool false, _] ?_
 go_upto_region 8 with fail
 refine pS [.bool false, _] ?_
 go_upto_region 9 with fail
 refine pS [.bool false, _] ?_
 go_upto_region 11 with fail
 refine pS [.bool true, _] ?_
 go_upto_region 13 with fail
 refine pS [_] ?_
 go_wp2
 go_ret
 exact ⟨rfl, Below.refl _ _⟩
theorem low_7 (w : World) : Calls Tryz.prog 221 #[.string ⟨#[99, 97, 108, 108, 45, 105, 100]⟩] w fun e w' => e = .returned (.string (lowS ⟨#[99, 97, 108, 108, 45, 105, 100]⟩)) ∧ Below w.heap.size w w' := by
 have hl : lowS ⟨#[99, 97, 108, 108, 45, 105, 100]⟩ = ⟨#[99, 97, 108, 108, 45, 105, 100]⟩ := by kernel_rfl
 rw [hl]
 clear hl
 go_enter func221, ntmps221
 go_upto_region 0 with fail
 refine pS [_] ?_
 go_upto_region 1 with fail
 refine pS [_] ?_
 go_upto_region 2 with fail
 refine pS [.bool false, _] ?_
 go_upto_region 3 with fail
 refine pS [.bool false, _] ?_
 go_upto_region 5 with fail
 refine pS [.bool false, _] ?_
 go_upto_region 6 with fail
 refine pS [.bool false, _] ?_
 go_upto_region 8 with fail
 refine pS [.bool false, _] ?_
 go_upto_region 9 with fail
 refine pS [.bool false, _] ?_
 go_upto_region 11 with fail
 refine pS [.bool false, _] ?_
 go_upto_region 12 with fail
 refine pS [.bool true, _] ?_
 go_upto_region 13 with fail
 refine pS [_] ?_
 go_wp2
 go_ret
 exact ⟨rfl, Below.refl _ _⟩
theorem low_8 (w : World) : Calls Tryz.prog 221 #[.string ⟨#[67, 111, 110, 116, 97, 99, 116]⟩] w fun e w' => e = .returned (.string (lowS ⟨#[67, 111, 110, 116, 97, 99, 116]⟩)) ∧ Below w.heap.size w w' := by
 have hl : lowS ⟨#[67, 111, 110, 116, 97, 99, 116]⟩ = ⟨#[99, 111, 110, 116, 97, 99, 116]⟩ := by kernel_rfl
 rw [hl]
 clear hl
 go_enter func221, ntmps221
 go_upto_region 0 with fail
 refine pS [_] ?_
 go_upto_region 1 with fail
 refine pS [_] ?_
 go_upto_region 2 with fail
 refine pS [.bool false, _] ?_
 go_upto_region 3 with fail
 refine pS [.bool false, _] ?_
 go_upto_region 5 with fail
 refine pS [.bool false, _] ?_
 go_upto_region 6 with fail
 refine pS [.bool false, _] ?_
 go_upto_region 8 with fail
 refine pS [.bool false, _] ?_
 go_upto_region 9 with fail
 refine pS [.bool false, _] ?_
 go_upto_region 11 with fail
 refine pS [.bool false, _] ?_
 go_upto_region 12 with fail
 refine pS [.bool false, _] ?_
 go_upto_region 14 with fail
 refine pS [.bool true, _] ?_
 go_upto_region 16 with fail
 refine pS [_] ?_
 go_wp2
 go_ret
 exact ⟨rfl, Below.refl _ _⟩
theorem low_9 (w : World) : Calls Tryz.prog 221 #[.string ⟨#[99, 111, 110, 116, 97, 99, 116]⟩] w fun e w' => e = .returned (.string (lowS ⟨#[99, 111, 110, 116, 97, 99, 116]⟩)) ∧ Below w.heap.size w w' := by
 have hl : lowS ⟨#[99, 111, 110, 116, 97, 99, 116]⟩ = ⟨#[99, 111, 110, 116, 97, 99, 116]⟩ := by kernel_rfl
 rw [hl]
 clear hl
 go_enter func221, ntmps221
 go_upto_region 0 with fail
 refine pS [_] ?_
 go_upto_region 1 with fail
 refine pS [_] ?_
 go_upto_region 2 with fail
 refine pS [.bool false, _] ?_
 go_upto_region 3 with fail
 refine pS [.bool false, _] ?_
 go_upto_region 5 with fail
 refine pS [.bool false, _] ?_
 go_upto_region 6 with fail
 refine pS [.bool false, _] ?_
 go_upto_region 8 with fail
 refine pS [.bool false, _] ?_
 go_upto_region 9 with fail
 refine pS [.bool false, _] ?_
 go_upto_region 11 with fail
 refine pS [.bool false, _] ?_
 go_upto_region 12 with fail
 refine pS [.bool false, _] ?_
 go_upto_region 14 with fail
 refine pS [.bool false, _] ?_
 go_upto_region 15 with fail
 refine pS [.bool true, _] ?_
 go_upto_region 16 with fail
 refine pS [_] ?_
 go_wp2
 go_ret
 exact ⟨rfl, Below.refl _ _⟩
theorem low_10 (w : World) : Calls Tryz.prog 221 #[.string ⟨#[67, 83, 101, 113]⟩] w fun e w' => e = .returned (.string (lowS ⟨#[67, 83, 101, 113]⟩)) ∧ Below w.heap.size w w' := by
 have hl : lowS ⟨#[67, 83, 101, 113]⟩ = ⟨#[99, 115, 101, 113]⟩ := by kernel_rfl
 rw [hl]
 clear hl
 go_enter func221, ntmps221
 go_upto_region 0 with fail
 refine pS [_] ?_
 go_upto_region 1 with fail
 refine pS [_] ?_
 go_upto_region 2 with fail
 refine pS [.bool false, _] ?_
 go_upto_region 3 with fail
 refine pS [.bool false, _] ?_
 go_upto_region 5 with fail
 refine pS [.bool false, _] ?_
 go_upto_region 6 with fail
 refine pS [.bool false, _] ?_
 go_upto_region 8 with fail
 refine pS [.bool false, _] ?_
 go_upto_region 9 with fail
 refine pS [.bool false, _] ?_
 go_upto_region 11 with fail
 refine pS [.bool false, _] ?_
 go_upto_region 12 with fail
 refine pS [.bool false, _] ?_
 go_upto_region 14 with fail
 refine pS [.bool false, _] ?_
 go_upto_region 15 with fail
 refine pS [.bool false, _] ?_
 go_upto_region 17 with fail
 refine pS [.bool true, _] ?_
 go_upto_region 20 with fail
 refine pS [_] ?_
 go_wp2
 go_ret
 exact ⟨rfl, Below.refl _ _⟩
theorem low_11 (w : World) : Calls Tryz.prog 221 #[.string ⟨#[67, 83, 69, 81]⟩] w fun e w' => e = .returned (.string (lowS ⟨#[67, 83, 69, 81]⟩)) ∧ Below w.heap.size w w' := by
 have hl : lowS ⟨#[67, 83, 69, 81]⟩ = ⟨#[99, 115, 101, 113]⟩ := by kernel_rfl
 rw [hl]
 clear hl
 go_enter func221, ntmps221
 go_upto_region 0 with fail
 refine pS [_] ?_
 go_upto_region 1 with fail
 refine pS [_] ?_
 go_upto_region 2 with fail
 refine pS [.bool false, _] ?_
 go_upto_region 3 with fail
 refine pS [.bool false, _] ?_
 go_upto_region 5 with fail
 refine pS [.bool false, _] ?_
 go_upto_region 6 with fail
 refine pS [.bool false, _] ?_
 go_upto_region 8 with fail
 refine pS [.bool false, _] ?_
 go_upto_region 9 with fail
 refine pS [.bool false, _] ?_
 go_upto_region 11 with fail
 refine pS [.bool false, _] ?_
 go_upto_region 12 with fail
 refine pS [.bool false, _] ?_
 go_upto_region 14 with fail
 refine pS [.bool false, _] ?_
 go_upto_region 15 with fail
 refine pS [.bool false, _] ?_
 go_upto_region 17 with fail
 refine pS [.bool false, _] ?_
 go_upto_region 18 with fail
 refine pS [.bool true, _] ?_
 go_upto_region 20 with fail
 refine pS [_] ?_
 go_wp2
 go_ret
 exact ⟨rfl, Below.refl _ _⟩
theorem low_12 (w : World) : Calls Tryz.prog 221 #[.string ⟨#[99, 115, 101, 113]⟩] w fun e w' => e = .returned (.string (lowS ⟨#[99, 115, 101, 113]⟩)) ∧ Below w.heap.size w w' := by
 have hl : lowS ⟨#[99, 115, 101, 113]⟩ = ⟨#[99, 115, 101, 113]⟩ := by kernel_rfl
 rw [hl]
 clear hl
 go_enter func221, ntmps221
 go_upto_region 0 with fail
 refine pS [_] ?_
 go_upto_region 1 with fail
 refine pS [_] ?_
 go_upto_region 2 with fail
 refine pS [.bool false, _] ?_
 go_upto_region 3 with fail
 refine pS [.bool false, _] ?_
 go_upto_region 5 with fail
 refine pS [.bool false, _] ?_
 go_upto_region 6 with fail
 refine pS [.bool false, _] ?_
 go_upto_region 8 with fail
 refine pS [.bool false, _] ?_
 go_upto_region 9 with fail
 refine pS [.bool false, _] ?_
 go_upto_region 11 with fail
 refine pS [.bool false, _] ?_
 go_upto_region 12 with fail
 refine pS [.bool false, _] ?_
 go_upto_region 14 with fail
 refine pS [.bool false, _] ?_
 go_upto_region 15 with fail
 refine pS [.bool false, _] ?_
 go_upto_region 17 with fail
 refine pS [.bool false, _] ?_
 go_upto_region 18 with fail
 refine pS [.bool false, _] ?_
 go_upto_region 19 with fail
 refine pS [.bool true, _] ?_
 go_upto_region 20 with fail
 refine pS [_] ?_
 go_wp2
 go_ret
 exact ⟨rfl, Below.refl _ _⟩
theorem low_13 (w : World) : Calls Tryz.prog 221 #[.string ⟨#[67, 111, 110, 116, 101, 110, 116, 45, 84, 121, 112, 101]⟩] w fun e w' => e = .returned (.string (lowS ⟨#[67, 111, 110, 116, 101, 110, 116, 45, 84, 121, 112, 101]⟩)) ∧ Below w.heap.size w w' := by
 have hl : lowS ⟨#[67, 111, 110, 116, 101, 110, 116, 45, 84, 121, 112, 101]⟩ = ⟨#[99, 111, 110, 116, 101, 110, 116, 45, 116, 121, 112, 101]⟩ := by kernel_rfl
 rw [hl]
 clear hl
 go_enter func221, ntmps221
 go_upto_region 0 with fail
 refine pS [_] ?_
 go_upto_region 1 with fail
 refine pS [_] ?_
 go_upto_region 2 with fail
 refine pS [.bool false, _] ?_
 go_upto_region 3 with fail
 refine pS [.bool false, _] ?_
 go_upto_region 5 with fail
 refine pS [.bool false, _] ?_
 go_upto_region 6 with fail
 refine pS [.bool false, _] ?_
 go_upto_region 8 with fail
 refine pS [.bool false, _] ?_
 go_upto_region 9 with fail
 refine pS [.bool false, _] ?_
 go_upto_region 11 with fail
 refine pS [.bool false, _] ?_
 go_upto_region 12 with fail
 refine pS [.bool false, _] ?_
 go_upto_region 14 with fail
 refine pS [.bool false, _] ?_
 go_upto_region 15 with fail
 refine pS [.bool false, _] ?_
 go_upto_region 17 with fail
 refine pS [.bool false, _] ?_
 go_upto_region 18 with fail
 refine pS [.bool false, _] ?_
 go_upto_region 19 with fail
 refine pS [.bool false, _] ?_
 go_upto_region 21 with fail
 refine pS [.bool true, _] ?_
 go_upto_region 23 with fail
 refine pS [_] ?_
 go_wp2
 go_ret
 exact ⟨rfl, Below.refl _ _⟩
theorem low_14 (w : World) : Calls Tryz.prog 221 #[.string ⟨#[99, 111, 110, 116, 101, 110, 116, 45, 116, 121, 112, 101]⟩] w fun e w' => e = .returned (.string (lowS ⟨#[99, 111, 110, 116, 101, 110, 116, 45, 116, 121, 112, 101]⟩)) ∧ Below w.heap.size w w' := by
 have hl : lowS ⟨#[99, 111, 110, 116, 101, 110, 116, 45, 116, 121, 112, 101]⟩ = ⟨#[99, 111, 110, 116, 101, 110, 116, 45, 116, 121, 112, 101]⟩ := by kernel_rfl
 rw [hl]
 clear hl
 go_enter func221, ntmps221
 go_upto_region 0 with fail
 refine pS [_] ?_
 go_upto_region 1 with fail
 refine pS [_] ?_
 go_upto_region 2 with fail
 refine pS [.bool false, _] ?_
 go_upto_region 3 with fail
 refine pS [.bool false, _] ?_
 go_upto_region 5 with fail
 refine pS [.bool false, _] ?_
 go_upto_region 6 with fail
 refine pS [.bool false, _] ?_
 go_upto_region 8 with fail
 refine pS [.bool false, _] ?_
 go_upto_region 9 with fail
 refine pS [.bool false, _] ?_
 go_upto_region 11 with fail
 refine pS [.bool false, _] ?_
 go_upto_region 12 with fail
 refine pS [.bool false, _] ?_
 go_upto_region 14 with fail
 refine pS [.bool false, _] ?_
 go_upto_region 15 with fail
 refine pS [.bool false, _] ?_
 go_upto_region 17 with fail
 refine pS [.bool false, _] ?_
 go_upto_region 18 with fail
 refine pS [.bool false, _] ?_
 go_upto_region 19 with fail
 refine pS [.bool false, _] ?_
 go_upto_region 21 with fail
 refine pS [.bool false, _] ?_
 go_upto_region 22 with fail
 refine pS [.bool true, _] ?_
 go_upto_region 23 with fail
 refine pS [_] ?_
 go_wp2
 go_ret
 exact ⟨rfl, Below.refl _ _⟩
theorem low_15 (w : World) : Calls Tryz.prog 221 #[.string ⟨#[67, 111, 110, 116, 101, 110, 116, 45, 76, 101, 110, 103, 116, 104]⟩] w fun e w' => e = .returned (.string (lowS ⟨#[67, 111, 110, 116, 101, 110, 116, 45, 76, 101, 110, 103, 116, 104]⟩)) ∧ Below w.heap.size w w' := by
 have hl : lowS ⟨#[67, 111, 110, 116, 101, 110, 116, 45, 76, 101, 110, 103, 116, 104]⟩ = ⟨#[99, 111, 110, 116, 101, 110, 116, 45, 108, 101, 110, 103, 116, 104]⟩ := by kernel_rfl
 rw [hl]
 clear hl
 go_enter func221, ntmps221
 go_upto_region 0 with fail
 refine pS [_] ?_
 go_upto_region 1 with fail
 refine pS [_] ?_
 go_upto_region 2 with fail
 refine pS [.bool false, _] ?_
 go_upto_region 3 with fail
 refine pS [.bool false, _] ?_
 go_upto_region 5 with fail
 refine pS [.bool false, _] ?_
 go_upto_region 6 with fail
 refine pS [.bool false, _] ?_
 go_upto_region 8 with fail
 refine pS [.bool false, _] ?_
 go_upto_region 9 with fail
 refine pS [.bool false, _] ?_
 go_upto_region 11 with fail
 refine pS [.bool false, _] ?_
 go_upto_region 12 with fail
 refine pS [.bool false, _] ?_
 go_upto_region 14 with fail
 refine pS [.bool false, _] ?_
 go_upto_region 15 with fail
 refine pS [.bool false, _] ?_
 go_upto_region 17 with fail
 refine pS [.bool false, _] ?_
 go_upto_region 18 with fail
 refine pS [.bool false, _] ?_
 go_upto_region 19 with fail
 refine pS [.bool false, _] ?_
 go_upto_region 21 with fail
 refine pS [.bool false, _] ?_
 go_upto_region 22 with fail
 refine pS [.bool false, _] ?_
 go_upto_region 24 with fail
 refine pS [.bool true, _] ?_
 go_upto_region 26 with fail
 refine pS [_] ?_
 go_wp2
 go_ret
 exact ⟨rfl, Below.refl _ _⟩
theorem low_16 (w : World) : Calls Tryz.prog 221 #[.string ⟨#[99, 111, 110, 116, 101, 110, 116, 45, 108, 101, 110, 103, 116, 104]⟩] w fun e w' => e = .returned (.string (lowS ⟨#[99, 111, 110, 116, 101, 110, 116, 45, 108, 101, 110, 103, 116, 104]⟩)) ∧ Below w.heap.size w w' := by
 have hl : lowS ⟨#[99, 111, 110, 116, 101, 110, 116, 45, 108, 101, 110, 103, 116, 104]⟩ = ⟨#[99, 111, 110, 116, 101, 110, 116, 45, 108, 101, 110, 103, 116, 104]⟩ := by kernel_rfl
 rw [hl]
 clear hl
 go_enter func221, ntmps221
 go_upto_region 0 with fail
 refine pS [_] ?_
 go_upto_region 1 with fail
 refine pS [_] ?_
 go_upto_region 2 with fail
 refine pS [.bool false, _] ?_
 go_upto_region 3 with fail
 refine pS [.bool false, _] ?_
 go_upto_region 5 with fail
 refine pS [.bool false, _] ?_
 go_upto_region 6 with fail
 refine pS [.bool false, _] ?_
 go_upto_region 8 with fail
 refine pS [.bool false, _] ?_
 go_upto_region 9 with fail
 refine pS [.bool false, _] ?_
 go_upto_region 11 with fail
 refine pS [.bool false, _] ?_
 go_upto_region 12 with fail
 refine pS [.bool false, _] ?_
 go_upto_region 14 with fail
 refine pS [.bool false, _] ?_
 go_upto_region 15 with fail
 refine pS [.bool false, _] ?_
 go_upto_region 17 with fail
 refine pS [.bool false, _] ?_
 go_upto_region 18 with fail
 refine pS [.bool false, _] ?_
 go_upto_region 19 with fail
 refine pS [.bool false, _] ?_
 go_upto_region 21 with fail
 refine pS [.bool false, _] ?_
 go_upto_region 22 with fail
 refine pS [.bool false, _] ?_
 go_upto_region 24 with fail
 refine pS [.bool false, _] ?_
 go_upto_region 25 with fail
 refine pS [.bool true, _] ?_
 go_upto_region 26 with fail
 refine pS [_] ?_
 go_wp2
 go_ret
 exact ⟨rfl, Below.refl _ _⟩
theorem low_17 (w : World) : Calls Tryz.prog 221 #[.string ⟨#[82, 111, 117, 116, 101]⟩] w fun e w' => e = .returned (.string (lowS ⟨#[82, 111, 117, 116, 101]⟩)) ∧ Below w.heap.size w w' := by
 have hl : lowS ⟨#[82, 111, 117, 116, 101]⟩ = ⟨#[114, 111, 117, 116, 101]⟩ := by kernel_rfl
 rw [hl]
 clear hl
 go_enter func221, ntmps221
 go_upto_region 0 with fail
 refine pS [_] ?_
 go_upto_region 1 with fail
 refine pS [_] ?_
 go_upto_region 2 with fail
 refine pS [.bool false, _] ?_
 go_upto_region 3 with fail
 refine pS [.bool false, _] ?_
 go_upto_region 5 with fail
 refine pS [.bool false, _] ?_
 go_upto_region 6 with fail
 refine pS [.bool false, _] ?_
 go_upto_region 8 with fail
 refine pS [.bool false, _] ?_
 go_upto_region 9 with fail
 refine pS [.bool false, _] ?_
 go_upto_region 11 with fail
 refine pS [.bool false, _] ?_
 go_upto_region 12 with fail
 refine pS [.bool false, _] ?_
 go_upto_region 14 with fail
 refine pS [.bool false, _] ?_
 go_upto_region 15 with fail
 refine pS [.bool false, _] ?_
 go_upto_region 17 with fail
 refine pS [.bool false, _] ?_
 go_upto_region 18 with fail
 refine pS [.bool false, _] ?_
 go_upto_region 19 with fail
 refine pS [.bool false, _] ?_
 go_upto_region 21 with fail
 refine pS [.bool false, _] ?_
 go_upto_region 22 with fail
 refine pS [.bool false, _] ?_
 go_upto_region 24 with fail
 refine pS [.bool false, _] ?_
 go_upto_region 25 with fail
 refine pS [.bool false, _] ?_
 go_upto_region 27 with fail
 refine pS [.bool true, _] ?_
 go_upto_region 29 with fail
 refine pS [_] ?_
 go_wp2
 go_ret
 exact ⟨rfl, Below.refl _ _⟩
theorem low_18 (w : World) : Calls Tryz.prog 221 #[.string ⟨#[114, 111, 117, 116, 101]⟩] w fun e w' => e = .returned (.string (lowS ⟨#[114, 111, 117, 116, 101]⟩)) ∧ Below w.heap.size w w' := by
 have hl : lowS ⟨#[114, 111, 117, 116, 101]⟩ = ⟨#[114, 111, 117, 116, 101]⟩ := by kernel_rfl
 rw [hl]
 clear hl
 go_enter func221, ntmps221
 go_upto_region 0 with fail
 refine pS [_] ?_
 go_upto_region 1 with fail
 refine pS [_] ?_
 go_upto_region 2 with fail
 refine pS [.bool false, _] ?_
 go_upto_region 3 with fail
 refine pS [.bool false, _] ?_
 go_upto_region 5 with fail
 refine pS [.bool false, _] ?_
 go_upto_region 6 with fail
 refine pS [.bool false, _] ?_
 go_upto_region 8 with fail
 refine pS [.bool false, _] ?_
 go_upto_region 9 with fail
 refine pS [.bool false, _] ?_
 go_upto_region 11 with fail
 refine pS [.bool false, _] ?_
 go_upto_region 12 with fail
 refine pS [.bool false, _] ?_
 go_upto_region 14 with fail
 refine pS [.bool false, _] ?_
 go_upto_region 15 with fail
 refine pS [.bool false, _] ?_
 go_upto_region 17 with fail
 refine pS [.bool false, _] ?_
 go_upto_region 18 with fail
 refine pS [.bool false, _] ?_
 go_upto_region 19 with fail
 refine pS [.bool false, _] ?_
 go_upto_region 21 with fail
 refine pS [.bool false, _] ?_
 go_upto_region 22 with fail
 refine pS [.bool false, _] ?_
 go_upto_region 24 with fail
 refine pS [.bool false, _] ?_
 go_upto_region 25 with fail
 refine pS [.bool false, _] ?_
 go_upto_region 27 with fail
 refine pS [.bool false, _] ?_
 go_upto_region 28 with fail
 refine pS [.bool true, _] ?_
 go_upto_region 29 with fail
 refine pS [_] ?_
 go_wp2
 go_ret
 exact ⟨rfl, Below.refl _ _⟩
theorem low_19 (w : World) : Calls Tryz.prog 221 #[.string ⟨#[82, 101, 99, 111, 114, 100, 45, 82, 111, 117, 116, 101]⟩] w fun e w' => e = .returned (.string (lowS ⟨#[82, 101, 99, 111, 114, 100, 45, 82, 111, 117, 116, 101]⟩)) ∧ Below w.heap.size w w' := by
 have hl : lowS ⟨#[82, 101, 99, 111, 114, 100, 45, 82, 111, 117, 116, 101]⟩ = ⟨#[114, 101, 99, 111, 114, 100, 45, 114, 111, 117, 116, 101]⟩ := by kernel_rfl
 rw [hl]
 clear hl
 go_enter func221, ntmps221
 go_upto_region 0 with fail
 refine pS [_] ?_
 go_upto_region 1 with fail
 refine pS [_] ?_
 go_upto_region 2 with fail
 refine pS [.bool false, _] ?_
 go_upto_region 3 with fail
 refine pS [.bool false, _] ?_
 go_upto_region 5 with fail
 refine pS [.bool false, _] ?_
 go_upto_region 6 with fail
 refine pS [.bool false, _] ?_
 go_upto_region 8 with fail
 refine pS [.bool false, _] ?_
 go_upto_region 9 with fail
 refine pS [.bool false, _] ?_
 go_upto_region 11 with fail
 refine pS [.bool false, _] ?_
 go_upto_region 12 with fail
 refine pS [.bool false, _] ?_
 go_upto_region 14 with fail
 refine pS [.bool false, _] ?_
 go_upto_region 15 with fail
 refine pS [.bool false, _] ?_
 go_upto_region 17 with fail
 refine pS [.bool false, _] ?_
 go_upto_region 18 with fail
 refine pS [.bool false, _] ?_
 go_upto_region 19 with fail
 refine pS [.bool false, _] ?_
 go_upto_region 21 with fail
 refine pS [.bool false, _] ?_
 go_upto_region 22 with fail
 refine pS [.bool false, _] ?_
 go_upto_region 24 with fail
 refine pS [.bool false, _] ?_
 go_upto_region 25 with fail
 refine pS [.bool false, _] ?_
 go_upto_region 27 with fail
 refine pS [.bool false, _] ?_
 go_upto_region 28 with fail
 refine pS [.bool false, _] ?_
 go_upto_region 30 with fail
 refine pS [.bool true, _] ?_
 go_upto_region 32 with fail
 refine pS [_] ?_
 go_wp2
 go_ret
 exact ⟨rfl, Below.refl _ _⟩
theorem low_20 (w : World) : Calls Tryz.prog 221 #[.string ⟨#[114, 101, 99, 111, 114, 100, 45, 114, 111, 117, 116, 101]⟩] w fun e w' => e = .returned (.string (lowS ⟨#[114, 101, 99, 111, 114, 100, 45, 114, 111, 117, 116, 101]⟩)) ∧ Below w.heap.size w w' := by
 have hl : lowS ⟨#[114, 101, 99, 111, 114, 100, 45, 114, 111, 117, 116, 101]⟩ = ⟨#[114, 101, 99, 111, 114, 100, 45, 114, 111, 117, 116, 101]⟩ := by kernel_rfl
 rw [hl]
 clear hl
 go_enter func221, ntmps221
 go_upto_region 0 with fail
 refine pS [_] ?_
 go_upto_region 1 with fail
 refine pS [_] ?_
 go_upto_region 2 with fail
 refine pS [.bool false, _] ?_
 go_upto_region 3 with fail
 refine pS [.bool false, _] ?_
 go_upto_region 5 with fail
 refine pS [.bool false, _] ?_
 go_upto_region 6 with fail
 refine pS [.bool false, _] ?_
 go_upto_region 8 with fail
 refine pS [.bool false, _] ?_
 go_upto_region 9 with fail
 refine pS [.bool false, _] ?_
 go_upto_region 11 with fail
 refine pS [.bool false, _] ?_
 go_upto_region 12 with fail
 refine pS [.bool false, _] ?_
 go_upto_region 14 with fail
 refine pS [.bool false, _] ?_
 go_upto_region 15 with fail
 refine pS [.bool false, _] ?_
 go_upto_region 17 with fail
 refine pS [.bool false, _] ?_
 go_upto_region 18 with fail
 refine pS [.bool false, _] ?_
 go_upto_region 19 with fail
 refine pS [.bool false, _] ?_
 go_upto_region 21 with fail
 refine pS [.bool false, _] ?_
 go_upto_region 22 with fail
 refine pS [.bool false, _] ?_
 go_upto_region 24 with fail
 refine pS [.bool false, _] ?_
 go_upto_region 25 with fail
 refine pS [.bool false, _] ?_
 go_upto_region 27 with fail
 refine pS [.bool false, _] ?_
 go_upto_region 28 with fail
 refine pS [.bool false, _] ?_
 go_upto_region 30 with fail
 refine pS [.bool false, _] ?_
 go_upto_region 31 with fail
 refine pS [.bool true, _] ?_
 go_upto_region 32 with fail
 refine pS [_] ?_
 go_wp2
 go_ret
 exact ⟨rfl, Below.refl _ _⟩
theorem low_21 (w : World) : Calls Tryz.prog 221 #[.string ⟨#[77, 97, 120, 45, 70, 111, 114, 119, 97, 114, 100, 115]⟩] w fun e w' => e = .returned (.string (lowS ⟨#[77, 97, 120, 45, 70, 111, 114, 119, 97, 114, 100, 115]⟩)) ∧ Below w.heap.size w w' := by
 have hl : lowS ⟨#[77, 97, 120, 45, 70, 111, 114, 119, 97, 114, 100, 115]⟩ = ⟨#[109, 97, 120, 45, 102, 111, 114, 119, 97, 114, 100, 115]⟩ := by kernel_rfl
 rw [hl]
 clear hl
 go_enter func221, ntmps221
 go_upto_region 0 with fail
 refine pS [_] ?_
 go_upto_region 1 with fail
 refine pS [_] ?_
 go_upto_region 2 with fail
 refine pS [.bool false, _] ?_
 go_upto_region 3 with fail
 refine pS [.bool false, _] ?_
 go_upto_region 5 with fail
 refine pS [.bool false, _] ?_
 go_upto_region 6 with fail
 refine pS [.bool false, _] ?_
 go_upto_region 8 with fail
 refine pS [.bool false, _] ?_
 go_upto_region 9 with fail
 refine pS [.bool false, _] ?_
 go_upto_region 11 with fail
 refine pS [.bool false, _] ?_
 go_upto_region 12 with fail
 refine pS [.bool false, _] ?_
 go_upto_region 14 with fail
 refine pS [.bool false, _] ?_
 go_upto_region 15 with fail
 refine pS [.bool false, _] ?_
 go_upto_region 17 with fail
 refine pS [.bool false, _] ?_
 go_upto_region 18 with fail
 refine pS [.bool false, _] ?_
 go_upto_region 19 with fail
 refine pS [.bool false, _] ?_
 go_upto_region 21 with fail
 refine pS [.bool false, _] ?_
 go_upto_region 22 with fail
 refine pS [.bool false, _] ?_
 go_upto_region 24 with fail
 refine pS [.bool false, _] ?_
 go_upto_region 25 with fail
 refine pS [.bool false, _] ?_
 go_upto_region 27 with fail
 refine pS [.bool false, _] ?_
 go_upto_region 28 with fail
 refine pS [.bool false, _] ?_
 go_upto_region 30 with fail
 refine pS [.bool false, _] ?_
 go_upto_region 31 with fail
 refine pS [.bool false, _] ?_
 go_upto_region 33 with fail
 refine pS [.bool true, _] ?_
 go_upto_region 34 with fail
 refine pS [_] ?_
 go_wp2
 go_ret
 exact ⟨rfl, Below.refl _ _⟩
theorem low_22 (w : World) : Calls Tryz.prog 221 #[.string ⟨#[84, 105, 109, 101, 115, 116, 97, 109, 112]⟩] w fun e w' => e = .returned (.string (lowS ⟨#[84, 105, 109, 101, 115, 116, 97, 109, 112]⟩)) ∧ Below w.heap.size w w' := by
 have hl : lowS ⟨#[84, 105, 109, 101, 115, 116, 97, 109, 112]⟩ = ⟨#[116, 105, 109, 101, 115, 116, 97, 109, 112]⟩ := by kernel_rfl
 rw [hl]
 clear hl
 go_enter func221, ntmps221
 go_upto_region 0 with fail
 refine pS [_] ?_
 go_upto_region 1 with fail
 refine pS [_] ?_
 go_upto_region 2 with fail
 refine pS [.bool false, _] ?_
 go_upto_region 3 with fail
 refine pS [.bool false, _] ?_
 go_upto_region 5 with fail
 refine pS [.bool false, _] ?_
 go_upto_region 6 with fail
 refine pS [.bool false, _] ?_
 go_upto_region 8 with fail
 refine pS [.bool false, _] ?_
 go_upto_region 9 with fail
 refine pS [.bool false, _] ?_
 go_upto_region 11 with fail
 refine pS [.bool false, _] ?_
 go_upto_region 12 with fail
 refine pS [.bool false, _] ?_
 go_upto_region 14 with fail
 refine pS [.bool false, _] ?_
 go_upto_region 15 with fail
 refine pS [.bool false, _] ?_
 go_upto_region 17 with fail
 refine pS [.bool false, _] ?_
 go_upto_region 18 with fail
 refine pS [.bool false, _] ?_
 go_upto_region 19 with fail
 refine pS [.bool false, _] ?_
 go_upto_region 21 with fail
 refine pS [.bool false, _] ?_
 go_upto_region 22 with fail
 refine pS [.bool false, _] ?_
 go_upto_region 24 with fail
 refine pS [.bool false, _] ?_
 go_upto_region 25 with fail
 refine pS [.bool false, _] ?_
 go_upto_region 27 with fail
 refine pS [.bool false, _] ?_
 go_upto_region 28 with fail
 refine pS [.bool false, _] ?_
 go_upto_region 30 with fail
 refine pS [.bool false, _] ?_
 go_upto_region 31 with fail
 refine pS [.bool false, _] ?_
 go_upto_region 33 with fail
 refine pS [.bool false, _] ?_
 go_upto_region 35 with fail
 refine pS [.bool true, _] ?_
 go_upto_region 37 with fail
 refine pS [_] ?_
 go_wp2
 go_ret
 exact ⟨rfl, Below.refl _ _⟩
theorem low_23 (w : World) : Calls Tryz.prog 221 #[.string ⟨#[116, 105, 109, 101, 115, 116, 97, 109, 112]⟩] w fun e w' => e = .returned (.string (lowS ⟨#[116, 105, 109, 101, 115, 116, 97, 109, 112]⟩)) ∧ Below w.heap.size w w' := by
 have hl : lowS ⟨#[116, 105, 109, 101, 115, 116, 97, 109, 112]⟩ = ⟨#[116, 105, 109, 101, 115, 116, 97, 109, 112]⟩ := by kernel_rfl
 rw [hl]
 clear hl
 go_enter func221, ntmps221
 go_upto_region 0 with fail
 refine pS [_] ?_
 go_upto_region 1 with fail
 refine pS [_] ?_
 go_upto_region 2 with fail
 refine pS [.bool false, _] ?_
 go_upto_region 3 with fail
 refine pS [.bool false, _] ?_
 go_upto_region 5 with fail
 refine pS [.bool false, _] ?_
 go_upto_region 6 with fail
 refine pS [.bool false, _] ?_
 go_upto_region 8 with fail
 refine pS [.bool false, _] ?_
 go_upto_region 9 with fail
 refine pS [.bool false, _] ?_
 go_upto_region 11 with fail
 refine pS [.bool false, _] ?_
 go_upto_region 12 with fail
 refine pS [.bool false, _] ?_
 go_upto_region 14 with fail
 refine pS [.bool false, _] ?_
 go_upto_region 15 with fail
 refine pS [.bool false, _] ?_
 go_upto_region 17 with fail
 refine pS [.bool false, _] ?_
 go_upto_region 18 with fail
 refine pS [.bool false, _] ?_
 go_upto_region 19 with fail
 refine pS [.bool false, _] ?_
 go_upto_region 21 with fail
 refine pS [.bool false, _] ?_
 go_upto_region 22 with fail
 refine pS [.bool false, _] ?_
 go_upto_region 24 with fail
 refine pS [.bool false, _] ?_
 go_upto_region 25 with fail
 refine pS [.bool false, _] ?_
 go_upto_region 27 with fail
 refine pS [.bool false, _] ?_
 go_upto_region 28 with fail
 refine pS [.bool false, _] ?_
 go_upto_region 30 with fail
 refine pS [.bool false, _] ?_
 go_upto_region 31 with fail
 refine pS [.bool false, _] ?_
 go_upto_region 33 with fail
 refine pS [.bool false, _] ?_
 go_upto_region 35 with fail
 refine pS [.bool false, _] ?_
 go_upto_region 36 with fail
 refine pS [.bool true, _] ?_
 go_upto_region 37 with fail
 refine pS [_] ?_
 go_wp2
 go_ret
 exact ⟨rfl, Below.refl _ _⟩
theorem low_other (hA : LowOK) (s : ByteArray) (w : World) (hs : s.size ≤ 100000000) (h0 : s ≠ ⟨#[86, 105, 97]⟩) (h1 : s ≠ ⟨#[118, 105, 97]⟩) (h2 : s ≠ ⟨#[70, 114, 111, 109]⟩) (h3 : s ≠ ⟨#[102, 114, 111, 109]⟩) (h4 : s ≠ ⟨#[84, 111]⟩) (h5 : s ≠ ⟨#[116, 111]⟩) (h6 : s ≠ ⟨#[67, 97, 108, 108, 45, 73, 68]⟩) (h7 : s ≠ ⟨#[99, 97, 108, 108, 45, 105, 100]⟩) (h8 : s ≠ ⟨#[67, 111, 110, 116, 97, 99, 116]⟩) (h9 : s ≠ ⟨#[99, 111, 110, 116, 97, 99, 116]⟩) (h10 : s ≠ ⟨#[67, 83, 101, 113]⟩) (h11 : s ≠ ⟨#[67, 83, 69, 81]⟩) (h12 : s ≠ ⟨#[99, 115, 101, 113]⟩) (h13 : s ≠ ⟨#[67, 111, 110, 116, 101, 110, 116, 45, 84, 121, 112, 101]⟩) (h14 : s ≠ ⟨#[99, 111, 110, 116, 101, 110, 116, 45, 116, 121, 112, 101]⟩) (h15 : s ≠ ⟨#[67, 111, 110, 116, 101, 110, 116, 45, 76, 101, 110, 103, 116, 104]⟩) (h16 : s ≠ ⟨#[99, 111, 110, 116, 101, 110, 116, 45, 108, 101, 110, 103, 116, 104]⟩) (h17 : s ≠ ⟨#[82, 111, 117, 116, 101]⟩) (h18 : s ≠ ⟨#[114, 111, 117, 116, 101]⟩) (h19 : s ≠ ⟨#[82, 101, 99, 111, 114, 100, 45, 82, 111, 117, 116, 101]⟩) (h20 : s ≠ ⟨#[114, 101, 99, 111, 114, 100, 45, 114, 111, 117, 116, 101]⟩) (h21 : s ≠ ⟨#[77, 97, 120, 45, 70, 111, 114, 119, 97, 114, 100, 115]⟩) (h22 : s ≠ ⟨#[84, 105, 109, 101, 115, 116, 97, 109, 112]⟩) (h23 : s ≠ ⟨#[116, 105, 109, 101, 115, 116, 97, 109, 112]⟩) :
 Calls Tryz.prog 221 #[.string s] w fun e w' => e = .returned (.string (lowS s)) ∧ Below w.heap.size w w' := by
 have HA := Lib.hid hA
 clear hA
 have hS0 := Below.refl w.heap.size w
 replace h0 := Lib.hid h0
 replace h1 := Lib.hid h1
 replace h2 := Lib.hid h2
 replace h3 := Lib.hid h3
 replace h4 := Lib.hid h4
 replace h5 := Lib.hid h5
 replace h6 := Lib.hid h6
 replace h7 := Lib.hid h7
 replace h8 := Lib.hid h8
 replace h9 := Lib.hid h9
 replace h10 := Lib.hid h10
 replace h11 := Lib.hid h11
 replace h12 := Lib.hid h12
 replace h13 := Lib.hid h13
 replace h14 := Lib.hid h14
 replace h15 := Lib.hid h15
 replace h16 := Lib.hid h16
 replace h17 := Lib.hid h17
 replace h18 := Lib.hid h18
 replace h19 := Lib.hid h19
 replace h20 := Lib.hid h20
 replace h21 := Lib.hid h21
 replace h22 := Lib.hid h22
 replace h23 := Lib.hid h23
 go_enter func221, ntmps221
 go_upto_region 0 with fail
 refine pS [_] ?_
 go_upto_region 1 with fail
 refine pS [_] ?_
 go_upto_region 2 with fail
 apply wR
 refine isF s ⟨#[86, 105, 97]⟩ h0.out ?_
 refine pQ [_] ?_
 go_upto_region 3 with fail
 apply wR
 refine isF s ⟨#[118, 105, 97]⟩ h1.out ?_
 refine pQ [_] ?_
 go_upto_region 5 with fail
 apply wR
 refine isF s ⟨#[70, 114, 111, 109]⟩ h2.out ?_
 refine pQ [_] ?_
 go_upto_region 6 with fail
 apply wR
 refine isF s ⟨#[102, 114, 111, 109]⟩ h3.out ?_
 refine pQ [_] ?_
 go_upto_region 8 with fail
 apply wR
 refine isF s ⟨#[84, 111]⟩ h4.out ?_
 refine pQ [_] ?_
 go_upto_region 9 with fail
 apply wR
 refine isF s ⟨#[116, 111]⟩ h5.out ?_
 refine pQ [_] ?_
 go_upto_region 11 with fail
 apply wR
 refine isF s ⟨#[67, 97, 108, 108, 45, 73, 68]⟩ h6.out ?_
 refine pQ [_] ?_
 go_upto_region 12 with fail
 apply wR
 refine isF s ⟨#[99, 97, 108, 108, 45, 105, 100]⟩ h7.out ?_
 refine pQ [_] ?_
 go_upto_region 14 with fail
 apply wR
 refine isF s ⟨#[67, 111, 110, 116, 97, 99, 116]⟩ h8.out ?_
 refine pQ [_] ?_
 go_upto_region 15 with fail
 apply wR
 refine isF s ⟨#[99, 111, 110, 116, 97, 99, 116]⟩ h9.out ?_
 refine pQ [_] ?_
 go_upto_region 17 with fail
 apply wR
 refine isF s ⟨#[67, 83, 101, 113]⟩ h10.out ?_
 refine pQ [_] ?_
 go_upto_region 18 with fail
 apply wR
 refine isF s ⟨#[67, 83, 69, 81]⟩ h11.out ?_
 refine pQ [_] ?_
 go_upto_region 19 with fail
 apply wR
 refine isF s ⟨#[99, 115, 101, 113]⟩ h12.out ?_
 refine pQ [_] ?_
 go_upto_region 21 with fail
 apply wR
 refine isF s ⟨#[67, 111, 110, 116, 101, 110, 116, 45, 84, 121, 112, 101]⟩ h13.out ?_
 refine pQ [_] ?_
 go_upto_region 22 with fail
 apply wR
 refine isF s ⟨#[99, 111, 110, 116, 101, 110, 116, 45, 116, 121, 112, 101]⟩ h14.out ?_
 refine pQ [_] ?_
 go_upto_region 24 with fail
 apply wR
 refine isF s ⟨#[67, 111, 110, 116, 101, 110, 116, 45, 76, 101, 110, 103, 116, 104]⟩ h15.out ?_
 refine pQ [_] ?_
 go_upto_region 25 with fail
 apply wR
 refine isF s ⟨#[99, 111, 110, 116, 101, 110, 116, 45, 108, 101, 110, 103, 116, 104]⟩ h16.out ?_
 refine pQ [_] ?_
 go_upto_region 27 with fail
 apply wR
 refine isF s ⟨#[82, 111, 117, 116, 101]⟩ h17.out ?_
 refine pQ [_] ?_
 go_upto_region 28 with fail
 apply wR
 refine isF s ⟨#[114, 111, 117, 116, 101]⟩ h18.out ?_
 refine pQ [_] ?_
 go_upto_region 30 with fail
 apply wR
 refine isF s ⟨#[82, 101, 99, 111, 114, 100, 45, 82, 111, 117, 116, 101]⟩ h19.out ?_
 refine pQ [_] ?_
 go_upto_region 31 with fail
 apply wR
 refine isF s ⟨#[114, 101, 99, 111, 114, 100, 45, 114, 111, 117, 116, 101]⟩ h20.out ?_
 refine pQ [_] ?_
 go_upto_region 33 with fail
 apply wR
 refine isF s ⟨#[77, 97, 120, 45, 70, 111, 114, 119, 97, 114, 100, 115]⟩ h21.out ?_
 refine pQ [_] ?_
 go_upto_region 35 with fail
 apply wR
 refine isF s ⟨#[84, 105, 109, 101, 115, 116, 97, 109, 112]⟩ h22.out ?_
 refine pQ [_] ?_
 go_upto_region 36 with fail
 apply wR
 refine isF s ⟨#[116, 105, 109, 101, 115, 116, 97, 109, 112]⟩ h23.out ?_
 refine pQ [_] ?_
 go_upto_region 38 with fail
 refine pR [_] ?_
 refine cC func75 #[.string s] (HA.out s _ hs) ?_
 rintro e w1 ⟨rfl, hb1⟩
 refine cR ?_
 obtain ⟨hS1, hz1, hy1⟩ := zC hS0 hb1
 refine pQ [_] ?_
 go_wp2
 go_ret
 exact ⟨rfl, hS1⟩
theorem headerToLower_c (hA : LowOK) (s : ByteArray) (w : World) (hs : s.size ≤ 100000000) :
 Calls Tryz.prog 221 #[.string s] w fun e w' => e = .returned (.string (lowS s)) ∧ Below w.heap.size w w' := by
 by_cases h0 : s = ⟨#[86, 105, 97]⟩
 ·subst h0; exact low_0 w
 by_cases h1 : s = ⟨#[118, 105, 97]⟩
 ·subst h1; exact low_1 w
 by_cases h2 : s = ⟨#[70, 114, 111, 109]⟩
 ·subst h2; exact low_2 w
 by_cases h3 : s = ⟨#[102, 114, 111, 109]⟩
 ·subst h3; exact low_3 w
 by_cases h4 : s = ⟨#[84, 111]⟩
 ·subst h4; exact low_4 w
 by_cases h5 : s = ⟨#[116, 111]⟩
 ·subst h5; exact low_5 w
 by_cases h6 : s = ⟨#[67, 97, 108, 108, 45, 73, 68]⟩
 ·subst h6; exact low_6 w
 by_cases h7 : s = ⟨#[99, 97, 108, 108, 45, 105, 100]⟩
 ·subst h7; exact low_7 w
 by_cases h8 : s = ⟨#[67, 111, 110, 116, 97, 99, 116]⟩
 ·subst h8; exact low_8 w
 by_cases h9 : s = ⟨#[99, 111, 110, 116, 97, 99, 116]⟩
 ·subst h9; exact low_9 w
 by_cases h10 : s = ⟨#[67, 83, 101, 113]⟩
 ·subst h10; exact low_10 w
 by_cases h11 : s = ⟨#[67, 83, 69, 81]⟩
 ·subst h11; exact low_11 w
 by_cases h12 : s = ⟨#[99, 115, 101, 113]⟩
 ·subst h12; exact low_12 w
 by_cases h13 : s = ⟨#[67, 111, 110, 116, 101, 110, 116, 45, 84, 121, 112, 101]⟩
 ·subst h13; exact low_13 w
 by_cases h14 : s = ⟨#[99, 111, 110, 116, 101, 110, 116, 45, 116, 121, 112, 101]⟩
 ·subst h14; exact low_14 w
 by_cases h15 : s = ⟨#[67, 111, 110, 116, 101, 110, 116, 45, 76, 101, 110, 103, 116, 104]⟩
 ·subst h15; exact low_15 w
 by_cases h16 : s = ⟨#[99, 111, 110, 116, 101, 110, 116, 45, 108, 101, 110, 103, 116, 104]⟩
 ·subst h16; exact low_16 w
 by_cases h17 : s = ⟨#[82, 111, 117, 116, 101]⟩
 ·subst h17; exact low_17 w
 by_cases h18 : s = ⟨#[114, 111, 117, 116, 101]⟩
 ·subst h18; exact low_18 w
 by_cases h19 : s = ⟨#[82, 101, 99, 111, 114, 100, 45, 82, 111, 117, 116, 101]⟩
 ·subst h19; exact low_19 w
 by_cases h20 : s = ⟨#[114, 101, 99, 111, 114, 100, 45, 114, 111, 117, 116, 101]⟩
 ·subst h20; exact low_20 w
 by_cases h21 : s = ⟨#[77, 97, 120, 45, 70, 111, 114, 119, 97, 114, 100, 115]⟩
 ·subst h21; exact low_21 w
 by_cases h22 : s = ⟨#[84, 105, 109, 101, 115, 116, 97, 109, 112]⟩
 ·subst h22; exact low_22 w
 by_cases h23 : s = ⟨#[116, 105, 109, 101, 115, 116, 97, 109, 112]⟩
 ·subst h23; exact low_23 w
 exact low_other hA s w hs h0 h1 h2 h3 h4 h5 h6 h7 h8 h9 h10 h11 h12 h13 h14 h15 h16 h17 h18 h19 h20 h21 h22 h23
def nmS (x : SH) : ByteArray := if x.t = 0 then x.s1 else [⟨#[]⟩, ⟨#[84, 111]⟩, ⟨#[70, 114, 111, 109]⟩, ⟨#[67, 111, 110, 116, 97, 99, 116]⟩, ⟨#[67, 97, 108, 108, 45, 73, 68]⟩, ⟨#[67, 83, 101, 113]⟩, ⟨#[77, 97, 120, 45, 70, 111, 114, 119, 97, 114, 100, 115]⟩, ⟨#[69, 120, 112, 105, 114, 101, 115]⟩, ⟨#[67, 111, 110, 116, 101, 110, 116, 45, 76, 101, 110, 103, 116, 104]⟩, ⟨#[86, 105, 97]⟩, ⟨#[67, 111, 110, 116, 101, 110, 116, 45, 84, 121, 112, 101]⟩, ⟨#[82, 111, 117, 116, 101]⟩, ⟨#[82, 101, 99, 111, 114, 100, 45, 82, 111, 117, 116, 101]⟩, ⟨#[82, 101, 102, 101, 114, 45, 84, 111]⟩, ⟨#[82, 101, 102, 101, 114, 114, 101, 100, 45, 66, 121]⟩].getD x.t ⟨#[]⟩
theorem name_t1 (w : World) (b : Nat) : Calls Tryz.prog 249 #[.pointer (some ⟨b, 0, none⟩)] w fun e w' => e = .returned (.string ⟨#[84, 111]⟩) ∧ w = w' := by
 go_enter func249, ntmps249
 go_wp2
 go_ret
 exact ⟨rfl, rfl⟩
theorem meth_t1 (w : World) (b : Nat) : (callMethod (.iface 92 (.pointer (some ⟨b, 0, none⟩))) "Name" #[]).run Tryz.prog w = .ok (.enter 249 #[.pointer (some ⟨b, 0, none⟩)]) w := by kernel_rfl
theorem name_t2 (w : World) (b : Nat) : Calls Tryz.prog 243 #[.pointer (some ⟨b, 0, none⟩)] w fun e w' => e = .returned (.string ⟨#[70, 114, 111, 109]⟩) ∧ w = w' := by
 go_enter func243, ntmps243
 go_wp2
 go_ret
 exact ⟨rfl, rfl⟩
theorem meth_t2 (w : World) (b : Nat) : (callMethod (.iface 91 (.pointer (some ⟨b, 0, none⟩))) "Name" #[]).run Tryz.prog w = .ok (.enter 243 #[.pointer (some ⟨b, 0, none⟩)]) w := by kernel_rfl
theorem name_t3 (w : World) (b : Nat) : Calls Tryz.prog 261 #[.pointer (some ⟨b, 0, none⟩)] w fun e w' => e = .returned (.string ⟨#[67, 111, 110, 116, 97, 99, 116]⟩) ∧ w = w' := by
 go_enter func261, ntmps261
 go_wp2
 go_ret
 exact ⟨rfl, rfl⟩
theorem meth_t3 (w : World) (b : Nat) : (callMethod (.iface 94 (.pointer (some ⟨b, 0, none⟩))) "Name" #[]).run Tryz.prog w = .ok (.enter 261 #[.pointer (some ⟨b, 0, none⟩)]) w := by kernel_rfl
theorem name_t4 (w : World) (b : Nat) : Calls Tryz.prog 255 #[.pointer (some ⟨b, 0, none⟩)] w fun e w' => e = .returned (.string ⟨#[67, 97, 108, 108, 45, 73, 68]⟩) ∧ w = w' := by
 go_enter func255, ntmps255
 go_wp2
 go_ret
 exact ⟨rfl, rfl⟩
theorem meth_t4 (w : World) (b : Nat) : (callMethod (.iface 93 (.pointer (some ⟨b, 0, none⟩))) "Name" #[]).run Tryz.prog w = .ok (.enter 255 #[.pointer (some ⟨b, 0, none⟩)]) w := by kernel_rfl
theorem name_t5 (w : World) (b : Nat) : Calls Tryz.prog 267 #[.pointer (some ⟨b, 0, none⟩)] w fun e w' => e = .returned (.string ⟨#[67, 83, 101, 113]⟩) ∧ w = w' := by
 go_enter func267, ntmps267
 go_wp2
 go_ret
 exact ⟨rfl, rfl⟩
theorem meth_t5 (w : World) (b : Nat) : (callMethod (.iface 95 (.pointer (some ⟨b, 0, none⟩))) "Name" #[]).run Tryz.prog w = .ok (.enter 267 #[.pointer (some ⟨b, 0, none⟩)]) w := by kernel_rfl
theorem name_t6 (w : World) (b : Nat) : Calls Tryz.prog 298 #[.pointer (some ⟨b, 0, none⟩)] w fun e w' => e = .returned (.string ⟨#[77, 97, 120, 45, 70, 111, 114, 119, 97, 114, 100, 115]⟩) ∧ w = w' := by
 go_enter func298, ntmps298
 go_wp2
 go_ret
 exact ⟨rfl, rfl⟩
theorem meth_t6 (w : World) (b : Nat) : (callMethod (.iface 100 (.pointer (some ⟨b, 0, none⟩))) "Name" #[]).run Tryz.prog w = .ok (.enter 298 #[.pointer (some ⟨b, 0, none⟩)]) w := by kernel_rfl
theorem name_t7 (w : World) (b : Nat) : Calls Tryz.prog 344 #[.pointer (some ⟨b, 0, none⟩)] w fun e w' => e = .returned (.string ⟨#[69, 120, 112, 105, 114, 101, 115]⟩) ∧ w = w' := by
 go_enter func344, ntmps344
 go_wp2
 go_ret
 exact ⟨rfl, rfl⟩
theorem meth_t7 (w : World) (b : Nat) : (callMethod (.iface 129 (.pointer (some ⟨b, 0, none⟩))) "Name" #[]).run Tryz.prog w = .ok (.enter 344 #[.pointer (some ⟨b, 0, none⟩)]) w := by kernel_rfl
theorem name_t8 (w : World) (b : Nat) : Calls Tryz.prog 273 #[.pointer (some ⟨b, 0, none⟩)] w fun e w' => e = .returned (.string ⟨#[67, 111, 110, 116, 101, 110, 116, 45, 76, 101, 110, 103, 116, 104]⟩) ∧ w = w' := by
 go_enter func273, ntmps273
 go_wp2
 go_ret
 exact ⟨rfl, rfl⟩
theorem meth_t8 (w : World) (b : Nat) : (callMethod (.iface 96 (.pointer (some ⟨b, 0, none⟩))) "Name" #[]).run Tryz.prog w = .ok (.enter 273 #[.pointer (some ⟨b, 0, none⟩)]) w := by kernel_rfl
theorem name_t9 (w : World) (b : Nat) : Calls Tryz.prog 236 #[.pointer (some ⟨b, 0, none⟩)] w fun e w' => e = .returned (.string ⟨#[86, 105, 97]⟩) ∧ w = w' := by
 go_enter func236, ntmps236
 go_wp2
 go_ret
 exact ⟨rfl, rfl⟩
theorem meth_t9 (w : World) (b : Nat) : (callMethod (.iface 90 (.pointer (some ⟨b, 0, none⟩))) "Name" #[]).run Tryz.prog w = .ok (.enter 236 #[.pointer (some ⟨b, 0, none⟩)]) w := by kernel_rfl
theorem name_t10 (w : World) (b : Nat) : Calls Tryz.prog 279 #[.pointer (some ⟨b, 0, none⟩)] w fun e w' => e = .returned (.string ⟨#[67, 111, 110, 116, 101, 110, 116, 45, 84, 121, 112, 101]⟩) ∧ w = w' := by
 go_enter func279, ntmps279
 go_wp2
 go_ret
 exact ⟨rfl, rfl⟩
theorem meth_t10 (w : World) (b : Nat) : (callMethod (.iface 97 (.pointer (some ⟨b, 0, none⟩))) "Name" #[]).run Tryz.prog w = .ok (.enter 279 #[.pointer (some ⟨b, 0, none⟩)]) w := by kernel_rfl
theorem name_t11 (w : World) (b : Nat) : Calls Tryz.prog 285 #[.pointer (some ⟨b, 0, none⟩)] w fun e w' => e = .returned (.string ⟨#[82, 111, 117, 116, 101]⟩) ∧ w = w' := by
 go_enter func285, ntmps285
 go_wp2
 go_ret
 exact ⟨rfl, rfl⟩
theorem meth_t11 (w : World) (b : Nat) : (callMethod (.iface 98 (.pointer (some ⟨b, 0, none⟩))) "Name" #[]).run Tryz.prog w = .ok (.enter 285 #[.pointer (some ⟨b, 0, none⟩)]) w := by kernel_rfl
theorem name_t12 (w : World) (b : Nat) : Calls Tryz.prog 291 #[.pointer (some ⟨b, 0, none⟩)] w fun e w' => e = .returned (.string ⟨#[82, 101, 99, 111, 114, 100, 45, 82, 111, 117, 116, 101]⟩) ∧ w = w' := by
 go_enter func291, ntmps291
 go_wp2
 go_ret
 exact ⟨rfl, rfl⟩
theorem meth_t12 (w : World) (b : Nat) : (callMethod (.iface 99 (.pointer (some ⟨b, 0, none⟩))) "Name" #[]).run Tryz.prog w = .ok (.enter 291 #[.pointer (some ⟨b, 0, none⟩)]) w := by kernel_rfl
theorem name_t13 (w : World) (b : Nat) : Calls Tryz.prog 351 #[.pointer (some ⟨b, 0, none⟩)] w fun e w' => e = .returned (.string ⟨#[82, 101, 102, 101, 114, 45, 84, 111]⟩) ∧ w = w' := by
 go_enter func351, ntmps351
 go_wp2
 go_ret
 exact ⟨rfl, rfl⟩
theorem meth_t13 (w : World) (b : Nat) : (callMethod (.iface 155 (.pointer (some ⟨b, 0, none⟩))) "Name" #[]).run Tryz.prog w = .ok (.enter 351 #[.pointer (some ⟨b, 0, none⟩)]) w := by kernel_rfl
theorem name_t14 (w : World) (b : Nat) : Calls Tryz.prog 357 #[.pointer (some ⟨b, 0, none⟩)] w fun e w' => e = .returned (.string ⟨#[82, 101, 102, 101, 114, 114, 101, 100, 45, 66, 121]⟩) ∧ w = w' := by
 go_enter func357, ntmps357
 go_wp2
 go_ret
 exact ⟨rfl, rfl⟩
theorem meth_t14 (w : World) (b : Nat) : (callMethod (.iface 157 (.pointer (some ⟨b, 0, none⟩))) "Name" #[]).run Tryz.prog w = .ok (.enter 357 #[.pointer (some ⟨b, 0, none⟩)]) w := by kernel_rfl
theorem name_t0 (w : World) (b : Nat) (s1 s2 : ByteArray) (h : Blk w b #[.string s1, .string s2] 161) : Calls Tryz.prog 363 #[.pointer (some ⟨b, 0, none⟩)] w fun e w' => e = .returned (.string s1) ∧ w = w' := by
 go_enter func363, ntmps363
 go_upto_region 0 with fail
 refine pS [_] ?_
 go_upto_region 1 with fail
 refine pR [_, .pointer (some ⟨b, 0, none⟩), .pointer (some ⟨b, 0, none⟩)] ?_
 refine Wl.ld (h.cell 0 (.string s1) (by kernel_rfl)) underlying9 ?_
 refine pQ [_] ?_
 go_wp2
 go_ret
 exact ⟨rfl, rfl⟩
theorem meth_t0 (w : World) (b : Nat) : (callMethod (.iface 159 (.pointer (some ⟨b, 0, none⟩))) "Name" #[]).run Tryz.prog w = .ok (.enter 363 #[.pointer (some ⟨b, 0, none⟩)]) w := by kernel_rfl
theorem run_invoke {P : Program} {o : Oper} {a : Act} {w : World} {recv v : Value} {x : Operand} {name : String} {ats : Array TypeId} {n : Next} (ho : o.op = .call { callee := .invoke x name, args := #[], argTypes := ats }) (hx : a.eval x = v) (h : (callMethod v name #[]).run P w = .ok n w) :
 (execOp a.eval o).run P w = .ok n w := by
 unfold execOp
 simp only [ho, resolve, invoke, hx]
 simpa using h
theorem step_name {ops : Array Oper} {o : Oper} {a : Act} {w : World} {K : Act → World → Prop} {Q : Exit → Act → World → Prop} {E : Prop} (hgd : o.guard = none) (y : Operand) (ats : Array TypeId) (ho : o.op = .call { callee := .invoke y "Name", args := #[], argTypes := ats })
 (v : Value) (hx : a.eval y = v) (x : SH) (hv : HObj w v x) (h : K (a.put o.dst (.string (nmS x))) w) : if Region.wanted o (yielded ops a.tmps) = true then Oper.wp Tryz.prog o a w K Q else E := by
 obtain ⟨b, cs, rfl, hb, hr⟩ := hv
 have hs := hr.sort
 rcases (show x.t = 0 ∨ x.t = 1 ∨ x.t = 2 ∨ x.t = 3 ∨ x.t = 4 ∨ x.t = 5 ∨ x.t = 6 ∨ x.t = 7 ∨ x.t = 8 ∨ x.t = 9 ∨ x.t = 10 ∨ x.t = 11 ∨ x.t = 12 ∨ x.t = 13 ∨ x.t = 14 by omega) with q | q | q | q | q | q | q | q | q | q | q | q | q | q | q
 ·have hn : nmS x = x.s1 := by unfold nmS; rw [q]; rfl
  rw [hn] at h
  rw [q] at hx hb
  have hc := hr.gen q
  subst hc
  exact step_enter hgd _ _ (run_invoke (recv := .nilIface) ho hx (meth_t0 w b)) (name_t0 w b _ _ hb) fun e w' hh => by obtain ⟨rfl, rfl⟩ := hh; exact ⟨_, rfl, h⟩
 ·have hn : nmS x = ⟨#[84, 111]⟩ := by unfold nmS; rw [q]; rfl
  rw [hn] at h
  rw [q] at hx hb
  exact step_enter hgd _ _ (run_invoke (recv := .nilIface) ho hx (meth_t1 w b)) (name_t1 w b) fun e w' hh => by obtain ⟨rfl, rfl⟩ := hh; exact ⟨_, rfl, h⟩
 ·have hn : nmS x = ⟨#[70, 114, 111, 109]⟩ := by unfold nmS; rw [q]; rfl
  rw [hn] at h
  rw [q] at hx hb
  exact step_enter hgd _ _ (run_invoke (recv := .nilIface) ho hx (meth_t2 w b)) (name_t2 w b) fun e w' hh => by obtain ⟨rfl, rfl⟩ := hh; exact ⟨_, rfl, h⟩
 ·have hn : nmS x = ⟨#[67, 111, 110, 116, 97, 99, 116]⟩ := by unfold nmS; rw [q]; rfl
  rw [hn] at h
  rw [q] at hx hb
  exact step_enter hgd _ _ (run_invoke (recv := .nilIface) ho hx (meth_t3 w b)) (name_t3 w b) fun e w' hh => by obtain ⟨rfl, rfl⟩ := hh; exact ⟨_, rfl, h⟩
 ·have hn : nmS x = ⟨#[67, 97, 108, 108, 45, 73, 68]⟩ := by unfold nmS; rw [q]; rfl
  rw [hn] at h
  rw [q] at hx hb
  exact step_enter hgd _ _ (run_invoke (recv := .nilIface) ho hx (meth_t4 w b)) (name_t4 w b) fun e w' hh => by obtain ⟨rfl, rfl⟩ := hh; exact ⟨_, rfl, h⟩
 ·have hn : nmS x = ⟨#[67, 83, 101, 113]⟩ := by unfold nmS; rw [q]; rfl
  rw [hn] at h
  rw [q] at hx hb
  exact step_enter hgd _ _ (run_invoke (recv := .nilIface) ho hx (meth_t5 w b)) (name_t5 w b) fun e w' hh => by obtain ⟨rfl, rfl⟩ := hh; exact ⟨_, rfl, h⟩
 ·have hn : nmS x = ⟨#[77, 97, 120, 45, 70, 111, 114, 119, 97, 114, 100, 115]⟩ := by unfold nmS; rw [q]; rfl
  rw [hn] at h
  rw [q] at hx hb
  exact step_enter hgd _ _ (run_invoke (recv := .nilIface) ho hx (meth_t6 w b)) (name_t6 w b) fun e w' hh => by obtain ⟨rfl, rfl⟩ := hh; exact ⟨_, rfl, h⟩
 ·have hn : nmS x = ⟨#[69, 120, 112, 105, 114, 101, 115]⟩ := by unfold nmS; rw [q]; rfl
  rw [hn] at h
  rw [q] at hx hb
  exact step_enter hgd _ _ (run_invoke (recv := .nilIface) ho hx (meth_t7 w b)) (name_t7 w b) fun e w' hh => by obtain ⟨rfl, rfl⟩ := hh; exact ⟨_, rfl, h⟩
 ·have hn : nmS x = ⟨#[67, 111, 110, 116, 101, 110, 116, 45, 76, 101, 110, 103, 116, 104]⟩ := by unfold nmS; rw [q]; rfl
  rw [hn] at h
  rw [q] at hx hb
  exact step_enter hgd _ _ (run_invoke (recv := .nilIface) ho hx (meth_t8 w b)) (name_t8 w b) fun e w' hh => by obtain ⟨rfl, rfl⟩ := hh; exact ⟨_, rfl, h⟩
 ·have hn : nmS x = ⟨#[86, 105, 97]⟩ := by unfold nmS; rw [q]; rfl
  rw [hn] at h
  rw [q] at hx hb
  exact step_enter hgd _ _ (run_invoke (recv := .nilIface) ho hx (meth_t9 w b)) (name_t9 w b) fun e w' hh => by obtain ⟨rfl, rfl⟩ := hh; exact ⟨_, rfl, h⟩
 ·have hn : nmS x = ⟨#[67, 111, 110, 116, 101, 110, 116, 45, 84, 121, 112, 101]⟩ := by unfold nmS; rw [q]; rfl
  rw [hn] at h
  rw [q] at hx hb
  exact step_enter hgd _ _ (run_invoke (recv := .nilIface) ho hx (meth_t10 w b)) (name_t10 w b) fun e w' hh => by obtain ⟨rfl, rfl⟩ := hh; exact ⟨_, rfl, h⟩
 ·have hn : nmS x = ⟨#[82, 111, 117, 116, 101]⟩ := by unfold nmS; rw [q]; rfl
  rw [hn] at h
  rw [q] at hx hb
  exact step_enter hgd _ _ (run_invoke (recv := .nilIface) ho hx (meth_t11 w b)) (name_t11 w b) fun e w' hh => by obtain ⟨rfl, rfl⟩ := hh; exact ⟨_, rfl, h⟩
 ·have hn : nmS x = ⟨#[82, 101, 99, 111, 114, 100, 45, 82, 111, 117, 116, 101]⟩ := by unfold nmS; rw [q]; rfl
  rw [hn] at h
  rw [q] at hx hb
  exact step_enter hgd _ _ (run_invoke (recv := .nilIface) ho hx (meth_t12 w b)) (name_t12 w b) fun e w' hh => by obtain ⟨rfl, rfl⟩ := hh; exact ⟨_, rfl, h⟩
 ·have hn : nmS x = ⟨#[82, 101, 102, 101, 114, 45, 84, 111]⟩ := by unfold nmS; rw [q]; rfl
  rw [hn] at h
  rw [q] at hx hb
  exact step_enter hgd _ _ (run_invoke (recv := .nilIface) ho hx (meth_t13 w b)) (name_t13 w b) fun e w' hh => by obtain ⟨rfl, rfl⟩ := hh; exact ⟨_, rfl, h⟩
 ·have hn : nmS x = ⟨#[82, 101, 102, 101, 114, 114, 101, 100, 45, 66, 121]⟩ := by unfold nmS; rw [q]; rfl
  rw [hn] at h
  rw [q] at hx hb
  exact step_enter hgd _ _ (run_invoke (recv := .nilIface) ho hx (meth_t14 w b)) (name_t14 w b) fun e w' hh => by obtain ⟨rfl, rfl⟩ := hh; exact ⟨_, rfl, h⟩
theorem Ro.cells {base : Nat} {w : World} {v : Value} {vals : List Value} (h : Ro base w v vals) : ∃ A n c, v = .slice A n c ∧ n = vals.length ∧ n ≤ 9223372036854775807 ∧ (0 < n → ∃ g, A = some ⟨g, 0, none⟩ ∧ g < w.heap.size ∧ ∀ i, i < n → w.cell? ⟨g, i, none⟩ = some (vals.getD i .nilIface)) := by
 obtain ⟨hl, ⟨rfl, h0⟩ | ⟨g, cap, cur, rfl, hb, hh, h1, h2, h3, h4⟩⟩ := h
 ·exact ⟨none, 0, 0, rfl, h0.symm, by omega, fun h => absurd h (by omega)⟩
 ·refine ⟨_, vals.length, cap, rfl, rfl, by unfold maxLen at h2; omega, fun _ => ⟨g, rfl, (Array.getElem?_eq_some_iff.1 hh).1, fun i hi => ?_⟩⟩
  rw [cell_of_row _ _ _ cur _ _ hh]
  have : vals[i]? = cur[i]? := by
   rw [← h4, List.getElem?_take_of_lt (by omega), Array.getElem?_toList]
  rw [← this, List.getElem?_eq_getElem hi]
  simp [List.getD, hi]
def NoneOf (L : List SH) (nm : ByteArray) : Prop := ∀ i, i < L.length → (nmS (L.getD i default)).size ≤ 100000000 ∧ lowS (nmS (L.getD i default)) ≠ nm
theorem getHeader_none (hA : LowOK) (base : Nat) (w : World) (b : Nat) (T : TypeId) (vals : List Value) (L : List SH) (cp : Bool) (rest : List Value) (h : HsAt base w b T vals L cp rest) (nm : ByteArray) (hno : NoneOf L nm) :
 Calls Tryz.prog 216 #[.pointer (some ⟨b, 0, none⟩), .string nm] w fun e w' => e = .returned .nilIface ∧ Below w.heap.size w w' := by
 obtain ⟨ov, hb, hro⟩ := h.blk
 have HH := Lib.hid h
 have HA := Lib.hid hA
 have HNO := Lib.hid hno
 have hlen := h.len
 clear h hA hno
 obtain ⟨A, n, c, rfl, hn, hmax, hcells⟩ := hro.cells
 rw [← hn] at hlen
 have HCELLS := Lib.hid hcells
 have hc0 : w.cell? ⟨b, 0, none⟩ = some (.slice A n c) := hb.cell 0 _ rfl
 have HLEN := Lib.hid hlen
 clear hcells hro hb hn hlen
 go_enter func216, ntmps216
 go_wp2
 clear hc0
 go_loopw [12] (fun i wr => ∃ k : Nat, k ≤ n ∧ i = .int .i64 k ∧ Below w.heap.size w wr) (fun i _ => n - (intOf i).toNat)
 case atStart => exact ⟨0, Nat.zero_le _, rfl, Below.refl _ _⟩
 case round =>
  obtain ⟨k, hk, rfl, hB⟩ := hrel
  by_cases hlt : k < n
  ·obtain ⟨g, rfl, hgl, hc⟩ := HCELLS.out (by omega)
   have hck := (hB.cell (p := ⟨g, k, none⟩) hgl).trans (hc k hlt)
   clear hc
   have hkL : k < L.length := by have := HLEN.out; omega
   obtain ⟨vk, hvk⟩ : ∃ v, v = vals.getD k .nilIface := ⟨_, rfl⟩
   have hv := (HH.out.obj k hkL).grow hB
   have hno := HNO.out k hkL
   obtain ⟨x, hx⟩ : ∃ x, x = L.getD k default := ⟨_, rfl⟩
   rw [← hx] at hv hno
   rw [← hvk] at hck hv
   have HX := Lib.hid hx
   have HVK := Lib.hid hvk
   obtain ⟨hn1, hn2⟩ := hno
   have HN2 := Lib.hid hn2
   clear hx hvk hn2
   go_upto_region 4 with fail
   clear hck
   go_upto_region 4 with fail
   refine pR [_] ?_
   refine Wl.step (fun K hK => ?_)
   refine step_name rfl _ _ rfl vk (by kernel_rfl) x hv ?_
   obtain ⟨w1, hw1⟩ : ∃ W, W = wr := ⟨_, rfl⟩
   rw [← hw1]
   have hS1 := hB
   rw [← hw1] at hS1
   have HW1 := Lib.hid hw1
   clear hw1
   refine hK _ _ ?_
   clear hK K
   (try simp only [Act.put, zD, zE, zF])
   refine cC func221 #[.string (nmS x)] (headerToLower_c HA.out (nmS x) _ hn1) ?_
   rintro e w2 ⟨rfl, hb2⟩
   refine cR ?_
   obtain ⟨hS2, hz2, hy2⟩ := zC hS1 hb2
   refine pP [_] ?_
   refine isF (lowS (nmS x)) nm HN2.out ?_
   refine wN ?_
   go_wp2
   go_roundw
   case rel => exact ⟨k + 1, by omega, by go_num, hS2⟩
   case measure => simp [intOf]; omega
  ·obtain rfl : k = n := by omega
   go_wp2
   go_ret
   exact ⟨rfl, hB⟩
theorem HsAt.grow {base : Nat} {w w' : World} {b : Nat} {T : TypeId} {vals : List Value} {L : List SH} {cp : Bool} {rest : List Value} (h : HsAt base w b T vals L cp rest) (hb : Below w.heap.size w w') : HsAt base w' b T vals L cp rest := by
 obtain ⟨ov, h1, h2⟩ := h.blk
 exact ⟨⟨ov, h1.grow hb, h2.grow hb⟩, h.len, fun i hi => (h.obj i hi).grow hb, h.ty, h.lo⟩
theorem lazy_cl (hA : LowOK) (base : Nat) (w : World) (b : Nat) (T : TypeId) (vals : List Value) (L : List SH) (cp : Bool) (rest : List Value) (h : HsAt base w b T vals L cp rest) (f p : Value) (bs : Nat) (ns : List ByteArray) (hns : Blk w bs (ns.map Value.string).toArray 9)
 (hl : ns.length ≤ 100) (hno : ∀ i, i < ns.length → NoneOf L (ns.getD i default)) :
 Calls Tryz.prog 209 #[.pointer (some ⟨b, 0, none⟩), f, .slice (some ⟨bs, 0, none⟩) ns.length ns.length, p] w fun e w' => e = .returned (.bool false) ∧ Below w.heap.size w w' := by
 have HA := Lib.hid hA
 have HH := Lib.hid h
 have HNO := Lib.hid hno
 have HNS := Lib.hid hns
 clear hA h hno hns
 obtain ⟨n, hn⟩ : ∃ n, n = ns.length := ⟨_, rfl⟩
 have HN := Lib.hid hn
 rw [← hn] at hl
 rw [← hn]
 clear hn
 go_enter func209, ntmps209
 go_wp2
 go_loopw [15] (fun i wr => ∃ k : Nat, k ≤ n ∧ i = .int .i64 k ∧ Below w.heap.size w wr) (fun i _ => n - (intOf i).toNat)
 case atStart => exact ⟨0, Nat.zero_le _, rfl, Below.refl _ _⟩
 case round =>
  obtain ⟨k, hk, rfl, hB⟩ := hrel
  by_cases hlt : k < n
  ·have hkn : k < ns.length := by have := HN.out; omega
   obtain ⟨s, hs⟩ : ∃ s, s = ns.getD k default := ⟨_, rfl⟩
   have hck : wr.cell? ⟨bs, k, none⟩ = some (.string s) := (HNS.out.grow hB).cell k _ (by
    rw [hs]
    simp [List.getD, hkn])
   have HS := Lib.hid hs
   clear hs
   have hnk := HNO.out k hkn
   rw [← HS.out] at hnk
   have HNK := Lib.hid hnk
   clear hnk
   have hH : HsAt base wr b T vals L cp rest := HsAt.grow HH.out hB
   have HHW := Lib.hid hH
   clear hH
   go_upto_region 4 with fail
   clear hck
   go_upto_region 4 with fail
   refine pR [_, _] ?_
   refine cC func216 #[.pointer (some ⟨b, 0, none⟩), .string s] (getHeader_none HA.out base _ b T vals L cp rest HHW.out s HNK.out) ?_
   rintro e w1 ⟨rfl, hb1⟩
   refine cR ?_
   obtain ⟨hS1, hz1, hy1⟩ := zC hB hb1
   refine pQ [_] ?_
   go_upto_region 5 with fail
   refine pS [_, .bool true] ?_
   go_wp2
   go_roundw
   case rel => exact ⟨k + 1, by omega, by go_num, hS1⟩
   case measure => simp [intOf]; omega
  ·obtain rfl : k = n := by omega
   go_wp2
   go_ret
   exact ⟨rfl, hB⟩
theorem lazy_via (hA : LowOK) (base : Nat) (w : World) (b : Nat) (T : TypeId) (vals : List Value) (L : List SH) (cp : Bool) (rest : List Value) (h : HsAt base w b T vals L cp rest) (f p : Value) (bs : Nat) (ns : List ByteArray) (hns : Blk w bs (ns.map Value.string).toArray 9)
 (hl : ns.length ≤ 100) (hno : ∀ i, i < ns.length → NoneOf L (ns.getD i default)) :
 Calls Tryz.prog 214 #[.pointer (some ⟨b, 0, none⟩), f, .slice (some ⟨bs, 0, none⟩) ns.length ns.length, p] w fun e w' => e = .returned (.bool false) ∧ Below w.heap.size w w' := by
 have HA := Lib.hid hA
 have HH := Lib.hid h
 have HNO := Lib.hid hno
 have HNS := Lib.hid hns
 clear hA h hno hns
 obtain ⟨n, hn⟩ : ∃ n, n = ns.length := ⟨_, rfl⟩
 have HN := Lib.hid hn
 rw [← hn] at hl
 rw [← hn]
 clear hn
 go_enter func214, ntmps214
 go_wp2
 go_loopw [15] (fun i wr => ∃ k : Nat, k ≤ n ∧ i = .int .i64 k ∧ Below w.heap.size w wr) (fun i _ => n - (intOf i).toNat)
 case atStart => exact ⟨0, Nat.zero_le _, rfl, Below.refl _ _⟩
 case round =>
  obtain ⟨k, hk, rfl, hB⟩ := hrel
  by_cases hlt : k < n
  ·have hkn : k < ns.length := by have := HN.out; omega
   obtain ⟨s, hs⟩ : ∃ s, s = ns.getD k default := ⟨_, rfl⟩
   have hck : wr.cell? ⟨bs, k, none⟩ = some (.string s) := (HNS.out.grow hB).cell k _ (by
    rw [hs]
    simp [List.getD, hkn])
   have HS := Lib.hid hs
   clear hs
   have hnk := HNO.out k hkn
   rw [← HS.out] at hnk
   have HNK := Lib.hid hnk
   clear hnk
   have hH : HsAt base wr b T vals L cp rest := HsAt.grow HH.out hB
   have HHW := Lib.hid hH
   clear hH
   go_upto_region 4 with fail
   clear hck
   go_upto_region 4 with fail
   refine pR [_, _] ?_
   refine cC func216 #[.pointer (some ⟨b, 0, none⟩), .string s] (getHeader_none HA.out base _ b T vals L cp rest HHW.out s HNK.out) ?_
   rintro e w1 ⟨rfl, hb1⟩
   refine cR ?_
   obtain ⟨hS1, hz1, hy1⟩ := zC hB hb1
   refine pQ [_] ?_
   go_upto_region 5 with fail
   refine pS [_, .bool true] ?_
   go_wp2
   go_roundw
   case rel => exact ⟨k + 1, by omega, by go_num, hS1⟩
   case measure => simp [intOf]; omega
  ·obtain rfl : k = n := by omega
   go_wp2
   go_ret
   exact ⟨rfl, hB⟩
theorem lazy_route (hA : LowOK) (base : Nat) (w : World) (b : Nat) (T : TypeId) (vals : List Value) (L : List SH) (cp : Bool) (rest : List Value) (h : HsAt base w b T vals L cp rest) (f p : Value) (bs : Nat) (ns : List ByteArray) (hns : Blk w bs (ns.map Value.string).toArray 9)
 (hl : ns.length ≤ 100) (hno : ∀ i, i < ns.length → NoneOf L (ns.getD i default)) :
 Calls Tryz.prog 309 #[.pointer (some ⟨b, 0, none⟩), f, .slice (some ⟨bs, 0, none⟩) ns.length ns.length, p] w fun e w' => e = .returned (.bool false) ∧ Below w.heap.size w w' := by
 have HA := Lib.hid hA
 have HH := Lib.hid h
 have HNO := Lib.hid hno
 have HNS := Lib.hid hns
 clear hA h hno hns
 obtain ⟨n, hn⟩ : ∃ n, n = ns.length := ⟨_, rfl⟩
 have HN := Lib.hid hn
 rw [← hn] at hl
 rw [← hn]
 clear hn
 go_enter func309, ntmps309
 go_wp2
 go_loopw [15] (fun i wr => ∃ k : Nat, k ≤ n ∧ i = .int .i64 k ∧ Below w.heap.size w wr) (fun i _ => n - (intOf i).toNat)
 case atStart => exact ⟨0, Nat.zero_le _, rfl, Below.refl _ _⟩
 case round =>
  obtain ⟨k, hk, rfl, hB⟩ := hrel
  by_cases hlt : k < n
  ·have hkn : k < ns.length := by have := HN.out; omega
   obtain ⟨s, hs⟩ : ∃ s, s = ns.getD k default := ⟨_, rfl⟩
   have hck : wr.cell? ⟨bs, k, none⟩ = some (.string s) := (HNS.out.grow hB).cell k _ (by
    rw [hs]
    simp [List.getD, hkn])
   have HS := Lib.hid hs
   clear hs
   have hnk := HNO.out k hkn
   rw [← HS.out] at hnk
   have HNK := Lib.hid hnk
   clear hnk
   have hH : HsAt base wr b T vals L cp rest := HsAt.grow HH.out hB
   have HHW := Lib.hid hH
   clear hH
   go_upto_region 4 with fail
   clear hck
   go_upto_region 4 with fail
   refine pR [_, _] ?_
   refine cC func216 #[.pointer (some ⟨b, 0, none⟩), .string s] (getHeader_none HA.out base _ b T vals L cp rest HHW.out s HNK.out) ?_
   rintro e w1 ⟨rfl, hb1⟩
   refine cR ?_
   obtain ⟨hS1, hz1, hy1⟩ := zC hB hb1
   refine pQ [_] ?_
   go_upto_region 5 with fail
   refine pS [_, .bool true] ?_
   go_wp2
   go_roundw
   case rel => exact ⟨k + 1, by omega, by go_num, hS1⟩
   case measure => simp [intOf]; omega
  ·obtain rfl : k = n := by omega
   go_wp2
   go_ret
   exact ⟨rfl, hB⟩
theorem two_of {L : List SH} {a b : ByteArray} (ha : NoneOf L a) (hb : NoneOf L b) : ∀ i, i < [a, b].length → NoneOf L ([a, b].getD i default) := fun i hi => by
 match i, hi with
 | 0, _ => exact ha
 | 1, _ => exact hb
theorem one_of {L : List SH} {a : ByteArray} (ha : NoneOf L a) : ∀ i, i < [a].length → NoneOf L ([a].getD i default) := fun i hi => by
 match i, hi with
 | 0, _ => exact ha
theorem refVia_some (base : Nat) (w : World) (b : Nat) (T : TypeId) (vals : List Value) (L : List SH) (cp : Bool) (rest : List Value) (h : HsAt base w b T vals L cp rest) (i : Nat) (hr : refT L 9 = some i) :
 Calls Tryz.prog 205 #[.pointer (some ⟨b, 0, none⟩)] w fun e w' => e = .returned (refV vals (some i)) ∧ w = w' := by
 obtain ⟨bx, hbx, _, _⟩ := h.refS hr
 obtain ⟨ov, hb, _⟩ := h.blk
 unfold hsCells at hb
 rw [show refV vals (refT L 9) = .pointer (some ⟨bx, 0, none⟩) by rw [hr, hbx]] at hb
 rw [hbx]
 clear hr hbx h
 go_enter func205, ntmps205
 go_upto_region 0 with fail
 refine pS [_] ?_
 go_upto_region 1 with fail
 refine pR [_, .pointer (some ⟨b, 0, none⟩), .pointer (some ⟨b, 1, none⟩)] ?_
 refine Wl.ld (hb.cell 1 (.pointer (some ⟨bx, 0, none⟩)) (by kernel_rfl)) underlying90 ?_
 refine pQ [.bool false] ?_
 go_upto_region 5 with fail
 refine pR [_, .pointer (some ⟨b, 0, none⟩), .pointer (some ⟨b, 1, none⟩)] ?_
 refine Wl.ld (hb.cell 1 (.pointer (some ⟨bx, 0, none⟩)) (by kernel_rfl)) underlying90 ?_
 refine pQ [_] ?_
 go_wp2
 go_ret
 exact ⟨rfl, rfl⟩
theorem refVia_none (hA : LowOK) (base : Nat) (w : World) (b : Nat) (T : TypeId) (vals : List Value) (L : List SH) (cp : Bool) (rest : List Value) (h : HsAt base w b T vals L cp rest) (hr : refT L 9 = none) (hno : NoneOf L ⟨#[118, 105, 97]⟩ ∧ NoneOf L ⟨#[118]⟩) :
 Calls Tryz.prog 205 #[.pointer (some ⟨b, 0, none⟩)] w fun e w' => e = .returned (.pointer none) ∧ Below w.heap.size w w' := by
 have HH := Lib.hid h
 have HA := Lib.hid hA
 have HNO := Lib.hid hno
 obtain ⟨ov, hb, _⟩ := h.blk
 unfold hsCells at hb
 rw [show refV vals (refT L 9) = .pointer none by rw [hr]; rfl] at hb
 clear hr h hA hno
 have hS0 := Below.refl w.heap.size w
 have hz0 := hS0.size
 go_enter func205, ntmps205
 go_upto_region 0 with fail
 refine pS [_] ?_
 go_upto_region 1 with fail
 refine pR [_, .pointer (some ⟨b, 0, none⟩), .pointer (some ⟨b, 1, none⟩)] ?_
 refine Wl.ld (hb.cell 1 (.pointer none) (by kernel_rfl)) underlying90 ?_
 refine pQ [.bool true] ?_
 go_upto_region 2 with fail
 refine pR [.agg #[.string ⟨#[]⟩, .string ⟨#[]⟩, .string ⟨#[]⟩, .string ⟨#[]⟩, .int .i64 0, .slice none 0 0]] ?_
 refine cN #[.string ⟨#[]⟩, .string ⟨#[]⟩, .string ⟨#[]⟩, .string ⟨#[]⟩, .int .i64 0, .slice none 0 0] 151 ?_
 intro bh w1 bh_ge bh_lt hh hb1
 obtain ⟨hS1, hz1, hy1⟩ := zC hS0 hb1
 replace hb := hb.grow hb1
 refine wP ?_
 refine pQ [_] ?_
 go_upto_region 3 with fail
 refine pR [_] ?_
 refine Wl.step (fun K hK => ?_)
 refine step_new rfl (fun b => .slice (some ⟨b, 0, none⟩) 2 2) (#[.string ⟨#[118, 105, 97]⟩, .string ⟨#[118]⟩]) 9 (by kernel_rfl) ?_
 intro bn w2 bn_ge bn_lt hn hb2
 obtain ⟨hS2, hz2, hy2⟩ := zC hS1 hb2
 replace hb := hb.grow hb2
 replace hh := hh.grow hb2
 refine hK _ _ ?_
 clear hK K
 (try simp only [Act.put, zD, zE, zF])
 refine pP [_] ?_
 refine cC func214 #[.pointer (some ⟨b, 0, none⟩), .func (.func 215) #[] #[], .slice (some ⟨bn, 0, none⟩) 2 2, .pointer (some ⟨bh, 0, none⟩)] (lazy_via HA.out base _ b T vals L cp rest (HH.out.grow hS2) _ _ bn [⟨#[118, 105, 97]⟩, ⟨#[118]⟩] hn (by decide) (two_of HNO.out.1 HNO.out.2)) ?_
 rintro e w3 ⟨rfl, hb3⟩
 refine cR ?_
 obtain ⟨hS3, hz3, hy3⟩ := zC hS2 hb3
 replace hb := hb.grow hb3
 replace hh := hh.grow hb3
 replace hn := hn.grow hb3
 refine wN ?_
 go_upto_region 5 with fail
 refine pR [_, .pointer (some ⟨b, 0, none⟩), .pointer (some ⟨b, 1, none⟩)] ?_
 refine Wl.ld (hb.cell 1 (.pointer none) (by kernel_rfl)) underlying90 ?_
 refine pQ [_] ?_
 go_wp2
 go_ret
 exact ⟨rfl, by assumption⟩
theorem refRoute_some (base : Nat) (w : World) (b : Nat) (T : TypeId) (vals : List Value) (L : List SH) (cp : Bool) (rest : List Value) (h : HsAt base w b T vals L cp rest) (i : Nat) (hr : refT L 11 = some i) :
 Calls Tryz.prog 195 #[.pointer (some ⟨b, 0, none⟩)] w fun e w' => e = .returned (refV vals (some i)) ∧ w = w' := by
 obtain ⟨bx, hbx, _, _⟩ := h.refS hr
 obtain ⟨ov, hb, _⟩ := h.blk
 unfold hsCells at hb
 rw [show refV vals (refT L 11) = .pointer (some ⟨bx, 0, none⟩) by rw [hr, hbx]] at hb
 rw [hbx]
 clear hr hbx h
 go_enter func195, ntmps195
 go_upto_region 0 with fail
 refine pS [_] ?_
 go_upto_region 1 with fail
 refine pR [_, .pointer (some ⟨b, 0, none⟩), .pointer (some ⟨b, 9, none⟩)] ?_
 refine Wl.ld (hb.cell 9 (.pointer (some ⟨bx, 0, none⟩)) (by kernel_rfl)) underlying98 ?_
 refine pQ [.bool false] ?_
 go_upto_region 5 with fail
 refine pR [_, .pointer (some ⟨b, 0, none⟩), .pointer (some ⟨b, 9, none⟩)] ?_
 refine Wl.ld (hb.cell 9 (.pointer (some ⟨bx, 0, none⟩)) (by kernel_rfl)) underlying98 ?_
 refine pQ [_] ?_
 go_wp2
 go_ret
 exact ⟨rfl, rfl⟩
theorem refRoute_none (hA : LowOK) (base : Nat) (w : World) (b : Nat) (T : TypeId) (vals : List Value) (L : List SH) (cp : Bool) (rest : List Value) (h : HsAt base w b T vals L cp rest) (hr : refT L 11 = none) (hno : NoneOf L ⟨#[114, 111, 117, 116, 101]⟩) :
 Calls Tryz.prog 195 #[.pointer (some ⟨b, 0, none⟩)] w fun e w' => e = .returned (.pointer none) ∧ Below w.heap.size w w' := by
 have HH := Lib.hid h
 have HA := Lib.hid hA
 have HNO := Lib.hid hno
 obtain ⟨ov, hb, _⟩ := h.blk
 unfold hsCells at hb
 rw [show refV vals (refT L 11) = .pointer none by rw [hr]; rfl] at hb
 clear hr h hA hno
 have hS0 := Below.refl w.heap.size w
 have hz0 := hS0.size
 go_enter func195, ntmps195
 go_upto_region 0 with fail
 refine pS [_] ?_
 go_upto_region 1 with fail
 refine pR [_, .pointer (some ⟨b, 0, none⟩), .pointer (some ⟨b, 9, none⟩)] ?_
 refine Wl.ld (hb.cell 9 (.pointer none) (by kernel_rfl)) underlying98 ?_
 refine pQ [.bool true] ?_
 go_upto_region 2 with fail
 refine pR [.agg #[.string ⟨#[]⟩, .string ⟨#[]⟩, .bool false, .bool false, .string ⟨#[]⟩, .string ⟨#[]⟩, .string ⟨#[]⟩, .int .i64 0, .slice none 0 0, .slice none 0 0]] ?_
 refine cN #[.string ⟨#[]⟩, .string ⟨#[]⟩, .bool false, .bool false, .string ⟨#[]⟩, .string ⟨#[]⟩, .string ⟨#[]⟩, .int .i64 0, .slice none 0 0, .slice none 0 0] 153 ?_
 intro bh w1 bh_ge bh_lt hh hb1
 obtain ⟨hS1, hz1, hy1⟩ := zC hS0 hb1
 replace hb := hb.grow hb1
 refine wP ?_
 refine pQ [_] ?_
 go_upto_region 3 with fail
 refine pR [_] ?_
 refine Wl.step (fun K hK => ?_)
 refine step_new rfl (fun b => .slice (some ⟨b, 0, none⟩) 1 1) (#[.string ⟨#[114, 111, 117, 116, 101]⟩]) 9 (by kernel_rfl) ?_
 intro bn w2 bn_ge bn_lt hn hb2
 obtain ⟨hS2, hz2, hy2⟩ := zC hS1 hb2
 replace hb := hb.grow hb2
 replace hh := hh.grow hb2
 refine hK _ _ ?_
 clear hK K
 (try simp only [Act.put, zD, zE, zF])
 refine pP [_] ?_
 refine cC func309 #[.pointer (some ⟨b, 0, none⟩), .func (.func 310) #[] #[], .slice (some ⟨bn, 0, none⟩) 1 1, .pointer (some ⟨bh, 0, none⟩)] (lazy_route HA.out base _ b T vals L cp rest (HH.out.grow hS2) _ _ bn [⟨#[114, 111, 117, 116, 101]⟩] hn (by decide) (one_of HNO.out)) ?_
 rintro e w3 ⟨rfl, hb3⟩
 refine cR ?_
 obtain ⟨hS3, hz3, hy3⟩ := zC hS2 hb3
 replace hb := hb.grow hb3
 replace hh := hh.grow hb3
 replace hn := hn.grow hb3
 refine wN ?_
 go_upto_region 5 with fail
 refine pR [_, .pointer (some ⟨b, 0, none⟩), .pointer (some ⟨b, 9, none⟩)] ?_
 refine Wl.ld (hb.cell 9 (.pointer none) (by kernel_rfl)) underlying98 ?_
 refine pQ [_] ?_
 go_wp2
 go_ret
 exact ⟨rfl, by assumption⟩
theorem refContentLength_some (base : Nat) (w : World) (b : Nat) (T : TypeId) (vals : List Value) (L : List SH) (cp : Bool) (rest : List Value) (h : HsAt base w b T vals L cp rest) (i : Nat) (hr : refT L 8 = some i) :
 Calls Tryz.prog 181 #[.pointer (some ⟨b, 0, none⟩)] w fun e w' => e = .returned (refV vals (some i)) ∧ w = w' := by
 obtain ⟨bx, hbx, _, _⟩ := h.refS hr
 obtain ⟨ov, hb, _⟩ := h.blk
 unfold hsCells at hb
 rw [show refV vals (refT L 8) = .pointer (some ⟨bx, 0, none⟩) by rw [hr, hbx]] at hb
 rw [hbx]
 clear hr hbx h
 go_enter func181, ntmps181
 go_upto_region 0 with fail
 refine pS [_] ?_
 go_upto_region 1 with fail
 refine pR [_, .pointer (some ⟨b, 0, none⟩), .pointer (some ⟨b, 7, none⟩)] ?_
 refine Wl.ld (hb.cell 7 (.pointer (some ⟨bx, 0, none⟩)) (by kernel_rfl)) underlying96 ?_
 refine pQ [.bool false] ?_
 go_upto_region 5 with fail
 refine pR [_, .pointer (some ⟨b, 0, none⟩), .pointer (some ⟨b, 7, none⟩)] ?_
 refine Wl.ld (hb.cell 7 (.pointer (some ⟨bx, 0, none⟩)) (by kernel_rfl)) underlying96 ?_
 refine pQ [_] ?_
 go_wp2
 go_ret
 exact ⟨rfl, rfl⟩
theorem refContentLength_none (hA : LowOK) (base : Nat) (w : World) (b : Nat) (T : TypeId) (vals : List Value) (L : List SH) (cp : Bool) (rest : List Value) (h : HsAt base w b T vals L cp rest) (hr : refT L 8 = none) (hno : NoneOf L ⟨#[99, 111, 110, 116, 101, 110, 116, 45, 108, 101, 110, 103, 116, 104]⟩ ∧ NoneOf L ⟨#[108]⟩) :
 Calls Tryz.prog 181 #[.pointer (some ⟨b, 0, none⟩)] w fun e w' => e = .returned (.pointer none) ∧ Below w.heap.size w w' := by
 have HH := Lib.hid h
 have HA := Lib.hid hA
 have HNO := Lib.hid hno
 obtain ⟨ov, hb, _⟩ := h.blk
 unfold hsCells at hb
 rw [show refV vals (refT L 8) = .pointer none by rw [hr]; rfl] at hb
 clear hr h hA hno
 have hS0 := Below.refl w.heap.size w
 have hz0 := hS0.size
 go_enter func181, ntmps181
 go_upto_region 0 with fail
 refine pS [_] ?_
 go_upto_region 1 with fail
 refine pR [_, .pointer (some ⟨b, 0, none⟩), .pointer (some ⟨b, 7, none⟩)] ?_
 refine Wl.ld (hb.cell 7 (.pointer none) (by kernel_rfl)) underlying96 ?_
 refine pQ [.bool true] ?_
 go_upto_region 2 with fail
 apply wR
 refine cN #[.int .u32 0] 130 ?_
 intro bh w1 bh_ge bh_lt hh hb1
 obtain ⟨hS1, hz1, hy1⟩ := zC hS0 hb1
 replace hb := hb.grow hb1
 refine wP ?_
 refine wN ?_
 go_upto_region 3 with fail
 refine pR [_] ?_
 refine Wl.step (fun K hK => ?_)
 refine step_new rfl (fun b => .slice (some ⟨b, 0, none⟩) 2 2) (#[.string ⟨#[99, 111, 110, 116, 101, 110, 116, 45, 108, 101, 110, 103, 116, 104]⟩, .string ⟨#[108]⟩]) 9 (by kernel_rfl) ?_
 intro bn w2 bn_ge bn_lt hn hb2
 obtain ⟨hS2, hz2, hy2⟩ := zC hS1 hb2
 replace hb := hb.grow hb2
 replace hh := hh.grow hb2
 refine hK _ _ ?_
 clear hK K
 (try simp only [Act.put, zD, zE, zF])
 refine cC func209 #[.pointer (some ⟨b, 0, none⟩), .func (.func 210) #[] #[], .slice (some ⟨bn, 0, none⟩) 2 2, .pointer (some ⟨bh, 0, none⟩)] (lazy_cl HA.out base _ b T vals L cp rest (HH.out.grow hS2) _ _ bn [⟨#[99, 111, 110, 116, 101, 110, 116, 45, 108, 101, 110, 103, 116, 104]⟩, ⟨#[108]⟩] hn (by decide) (two_of HNO.out.1 HNO.out.2)) ?_
 rintro e w3 ⟨rfl, hb3⟩
 refine cR ?_
 obtain ⟨hS3, hz3, hy3⟩ := zC hS2 hb3
 replace hb := hb.grow hb3
 replace hh := hh.grow hb3
 replace hn := hn.grow hb3
 refine wN ?_
 go_upto_region 5 with fail
 refine pR [_, .pointer (some ⟨b, 0, none⟩), .pointer (some ⟨b, 7, none⟩)] ?_
 refine Wl.ld (hb.cell 7 (.pointer none) (by kernel_rfl)) underlying96 ?_
 refine pQ [_] ?_
 go_wp2
 go_ret
 exact ⟨rfl, by assumption⟩
theorem conv_u32 (dst : TypeId) (hd : Tryz.prog.underlying dst = some (.int .u32)) (n : Nat) (hn : n ≤ 4294967295) (w : World) : (convert 3 dst (.int .i64 (n : Nat))).run Tryz.prog w = .ok (.int .u32 (n : Nat)) w := by
 have h : (convert 3 dst (.int .i64 (n : Nat))).run Tryz.prog w = .ok (.int .u32 (IntKind.u32.wrap (n : Nat))) w := by
  simp [convert, run_underlying underlying3, run_underlying hd, Conv.intToInt]
 rw [h, IntKind.wrap_u32, Int.emod_eq_of_lt (by omega) (by omega)]
def Ex (b : Nat) (w W : World) : Prop := ∀ k, k < w.heap.size → k ≠ b → W.heap[k]? = w.heap[k]?
theorem HsAt.ex {base : Nat} {w W : World} {b : Nat} {T : TypeId} {vals : List Value} {L : List SH} {cp : Bool} {rest rest' : List Value} (h : HsAt base w b T vals L cp rest) {ov : Value} (hro : Ro base w ov vals) {C : Array Value} (h0 : Blk w b C T) (ho : Ex b w W)
 (hb : Blk W b (hsCells ov vals L cp ++ rest').toArray T) : HsAt base W b T vals L cp rest' ∧ Kt w W := by
 have hT' : T ≠ 81 := by rcases h.ty with q | q <;> rw [q] <;> decide
 have hk : Kt w W := fun k c T' fr e h1 h2 h3 => by
  rw [ho k (Array.getElem?_eq_some_iff.1 e).1 ?_]
  ·exact e
  ·rintro rfl
   have := h0.symm.trans e
   injection this with this
   injection this with _ this _
   rcases h.ty with q | q
   ·exact h1 (this.symm.trans q)
   ·exact h2 (this.symm.trans q)
 refine ⟨⟨⟨ov, hb, ?_⟩, h.len, fun i hi => (h.obj i hi).kt hk, h.ty, h.lo⟩, hk⟩
 have hne := hro.ne h0 hT'
 obtain ⟨hl, hr | ⟨g, cap, cur, rfl, hb', hh, r⟩⟩ := hro
 ·exact ⟨hl, .inl hr⟩
 ·exact ⟨hl, .inr ⟨g, cap, cur, rfl, hb', (ho g (Array.getElem?_eq_some_iff.1 hh).1 (hne g rfl)).trans hh, r⟩⟩
theorem setBody_c (hA : LowOK) (base : Nat) (w : World) (b : Nat) (T : TypeId) (vals : List Value) (L : List SH) (cp : Bool) (r0 r1 : Value) (rest : List Value) (h : HsAt base w b T vals L cp (r0 :: r1 :: rest)) (ad : Addr) (n c : Nat)
 (hr : refT L 8 = none) (hno : NoneOf L ⟨#[99, 111, 110, 116, 101, 110, 116, 45, 108, 101, 110, 103, 116, 104]⟩ ∧ NoneOf L ⟨#[108]⟩) (hn : n ≤ 4294967295) (hbase : base ≤ w.heap.size) (hlen : L.length + 1 ≤ 4000000000000) :
 Calls Tryz.prog 196 #[.pointer (some ⟨b, 0, none⟩), .slice (some ad) n c] w fun e w' => ∃ v, e = .returned (.tuple #[]) ∧ HsAt base w' b T (vals ++ [v]) (L ++ [{ (default : SH) with t := 8, n := n }]) cp (r0 :: .slice (some ad) n c :: rest) ∧ Kt w w' ∧ Below base w w' := by
 obtain ⟨ov, hb, hro⟩ := h.blk
 unfold hsCells at hb
 have HH := Lib.hid h
 have HA := Lib.hid hA
 have HNO := Lib.hid hno
 have HR := Lib.hid hr
 have hlo := h.lo
 have HTY := Lib.hid h.ty
 clear h hA hno hr
 have hS0 := Below.refl base w
 have hz0 := hS0.size
 have hbw := hb.lt
 have HB0 := Lib.hid hb
 go_enter func196, ntmps196
 go_upto_region 0 with fail
 apply wR
 refine cN #[.int .u32 0] 130 ?_
 intro bl w1 bl_ge bl_lt hl hb1
 obtain ⟨hS1, hz1, hy1⟩ := zC hS0 hb1
 replace hb := hb.grow hb1
 refine wP ?_
 refine wN ?_
 go_upto_region 1 with fail
 refine pR [_, _, .pointer (some ⟨b, 0, none⟩), .pointer (some ⟨b, 14, none⟩)] ?_
 refine cA 22 b 14 [.slice (some ad) n c] (([ov, refV vals (refT L 9), refV vals (refT L 2), refV vals (refT L 1), refV vals (refT L 4), refV vals (refT L 3), refV vals (refT L 5), refV vals (refT L 8), refV vals (refT L 10), refV vals (refT L 11), refV vals (refT L 12), refV vals (refT L 6), .bool cp, r0, .slice (some ad) n c] : List Value) ++ rest).toArray T hb ?_
 intro w2 hb' hO2
 replace hl := hl.oth hO2 (by omega)
 have hS2 := hS1.trans (hO2.below (by omega))
 have hz2 := hS2.size
 clear hb
 have hb := hb'
 clear hb'
 have hzz2 := hO2.size
 replace hO2 := Lib.hid hO2
 refine wN ?_
 go_upto_region 2 with fail
 refine pS [_, .bool false] ?_
 go_upto_region 4 with fail
 refine pR [_, .int .i64 (n : Nat)] ?_
 refine kE 3 130 (.int .i64 (n : Nat)) (.int .u32 (n : Nat)) (conv_u32 _ underlying130 n hn _) ?_
 refine cB 130 bl 0 [.int .u32 (n : Nat)] 130 hl ?_
 intro w3 hl' hO3
 replace hb := hb.oth hO3 (by omega)
 have hS3 := hS2.trans (hO3.below (by omega))
 have hz3 := hS3.size
 clear hl
 have hl := hl'
 clear hl'
 have hzz3 := hO3.size
 replace hO3 := Lib.hid hO3
 refine wN ?_
 have hex : Ex b w w3 := fun k hk hne => by
  rw [hO3.out.block k (by omega), hO2.out.block k hne, hb1.block k hk]
 obtain ⟨hH3, hkt⟩ := HH.out.ex (rest' := r0 :: .slice (some ad) n c :: rest) hro (HB0.out) hex hb
 have HH3 := Lib.hid hH3
 clear hH3 hex hro
 have HKT := Lib.hid hkt
 clear hkt
 have hBk := hS3
 clear hb hb1 hS0 hS1 hS2 hO2 hO3
 go_upto_region 5 with fail
 refine pR [_, .pointer (some ⟨b, 0, none⟩), .pointer (some ⟨b, 0, none⟩)] ?_
 refine cC func181 #[.pointer (some ⟨b, 0, none⟩)] (refContentLength_none HA.out base _ b T vals L cp _ HH3.out HR.out HNO.out) ?_
 rintro e w4 ⟨rfl, hb4⟩
 refine cR ?_
 obtain ⟨hS4, hz4, hy4⟩ := zC hS3 hb4
 replace hl := hl.grow hb4
 refine pQ [_] ?_
 go_upto_region 6 with fail
 refine pS [_, .bool false] ?_
 go_upto_region 9 with fail
 refine pR [_, .pointer (some ⟨b, 0, none⟩), .pointer (some ⟨b, 0, none⟩), .iface 96 (.pointer (some ⟨bl, 0, none⟩))] ?_
 refine Wl.step (fun K hK => ?_)
 refine sC func175 #[.pointer (some ⟨b, 0, none⟩), .iface 96 (.pointer (some ⟨bl, 0, none⟩))] (appendHeader_c base _ b T vals L cp _ (HH3.out.grow hb4) _ { (default : SH) with t := 8, n := n } ⟨bl, _, rfl, hl, SHR.of_num (by unfold sNum; simp) ⟨rfl, by simp, by simp; omega⟩⟩ (by have := hS4.size; omega) hlen) ?_
 rintro e w5 ⟨rfl, hH5, hK5, hB5⟩
 refine ⟨_, rfl, ?_⟩
 have hS5 := hS4.trans hB5
 refine hK _ _ ?_
 clear hK K
 (try simp only [Act.put, zD, zE, zF])
 refine wN ?_
 go_wp2
 go_end0
 exact ⟨rfl, ⟨_, hH5⟩, (HKT.out.trans (Kt.of hb4)).trans hK5, hS5⟩
end Go.Proofs.YtfcllhdhfenmcaaGreatDoor
