/- Part 2 of the proof: laws and walks (merged by a program). -/
import Derived.Test.YtfcllhdhfenmcaaGreatDoorK01
set_option linter.all false
set_option maxHeartbeats 8000000
set_option maxRecDepth 100000
namespace Go.Proofs.YtfcllhdhfenmcaaGreatDoor
open Go.RowKit Go.Proofs.Tryz
abbrev By := List UInt8
def ga (l : List UInt8) (i : Nat) : Nat := (l.getD i 0).toNat
theorem ga_lt (l : List UInt8) (i : Nat) : ga l i < 256 := (l.getD i 0).toNat_lt
theorem getD_lt {α : Type} (l : List α) (i : Nat) (d : α) (h : i < l.length) : l.getD i d = l[i] := by simp [List.getD, h]
theorem ga_get (l : List UInt8) (i : Nat) (h : i < l.length) : ga l i = l[i].toNat := by unfold ga; rw [getD_lt _ _ _ h]
def Bs (w : World) (v : Value) (l : List UInt8) : Prop :=
 ∃ A c, v = .slice A l.length c ∧ l.length ≤ c ∧ c ≤ 9223372036854775807 ∧ (0 < l.length → ∃ b o, A = some ⟨b, o, none⟩ ∧ b < w.heap.size ∧ ∀ i, i < l.length → w.cell? ⟨b, o + i, none⟩ = some (.int .u8 (ga l i)))
theorem Bs.below {w w' : World} {v : Value} {l : List UInt8} (h : Bs w v l) {B : Nat} (hB : w.heap.size ≤ B) (hb : Below B w w') : Bs w' v l := by
 obtain ⟨A, c, rfl, h1, h2, h3⟩ := h
 refine ⟨A, c, rfl, h1, h2, fun h0 => ?_⟩
 obtain ⟨b, o, rfl, hl, hc⟩ := h3 h0
 refine ⟨b, o, rfl, Nat.lt_of_lt_of_le hl hb.size, fun i hi => ?_⟩
 rw [hb.cell (p := ⟨b, o + i, none⟩) (Nat.lt_of_lt_of_le hl hB)]
 exact hc i hi
theorem Bs.at {w : World} {v : Value} {l : List UInt8} (h : Bs w v l) : ∃ A c, v = .slice A l.length c ∧ l.length ≤ c ∧ c ≤ 9223372036854775807 := by
 obtain ⟨A, c, rfl, h1, h2, _⟩ := h
 exact ⟨A, c, rfl, h1, h2⟩
theorem Bs.shape {w : World} {v : Value} {l : List UInt8} (h : Bs w v l) : ∃ A c, v = .slice A l.length c := by
 obtain ⟨A, c, rfl, _⟩ := h
 exact ⟨A, c, rfl⟩
theorem Bs.grow {w w' : World} {v : Value} {l : List UInt8} (h : Bs w v l) (hb : Below w.heap.size w w') : Bs w' v l := h.below (Nat.le_refl _) hb
theorem Bs.alloc {w : World} {v : Value} {l : List UInt8} (h : Bs w v l) (o : Obj) : Bs (w.alloc o) v l := h.grow ((Below.refl _ _).alloc (Nat.le_refl _) o)
theorem Bs.drewN {w : World} {v : Value} {l : List UInt8} (h : Bs w v l) (n : Nat) : Bs (w.drewN n) v l := h.grow ⟨rfl, rfl, rfl, Nat.le_refl _, fun _ _ => rfl⟩
theorem Bs.drew {w : World} {v : Value} {l : List UInt8} (h : Bs w v l) : Bs w.drew v l := h.grow ⟨rfl, rfl, rfl, Nat.le_refl _, fun _ _ => rfl⟩
theorem below_alloc (w : World) (o : Obj) : Below w.heap.size w (w.alloc o) := (Below.refl _ _).alloc (Nat.le_refl _) o
theorem below_then {B : Nat} {w w1 w2 : World} (h : Below B w w1) (hB : B ≤ w1.heap.size) (k : Below w1.heap.size w1 w2) : Below B w w2 := h.trans (k.mono hB)
theorem bcell {W w1 : World} (hb : Below W.heap.size W w1) : (∀ b o, b < W.heap.size → w1.cell? ⟨b, o, none⟩ = W.cell? ⟨b, o, none⟩) ∧ (∀ b o, b < W.heap.size → w1.frozen? ⟨b, o, none⟩ = W.frozen? ⟨b, o, none⟩) :=
 ⟨fun b o h => hb.cell (p := ⟨b, o, none⟩) h, fun b o h => hb.frozen (p := ⟨b, o, none⟩) h⟩
theorem Bs.take {w : World} {A : Option Addr} {n c : Nat} {l : By} (h : Bs w (.slice A n c) l) (k : Nat) (hk : k ≤ l.length) : Bs w (.slice A k c) (l.take k) := by
 obtain ⟨A', c', he, h1, h2, h3⟩ := h
 injection he with e1 e2 e3
 subst e1; subst e2; subst e3
 have hl : (l.take k).length = k := by simp; omega
 refine ⟨A, c, by rw [hl], by rw [hl]; omega, h2, fun h0 => ?_⟩
 obtain ⟨b, o, rfl, hb, hc⟩ := h3 (by omega)
 refine ⟨b, o, rfl, hb, fun i hi => ?_⟩
 rw [hc i (by omega), ga_get _ _ hi, ga_get _ _ (by omega)]
 simp
theorem bs_nil (w : World) : Bs w (.slice none 0 0) [] := ⟨none, 0, rfl, Nat.le_refl _, by omega, fun h => absurd h (by simp)⟩
def letterB (c : Nat) : Bool := decide (97 ≤ c ∧ c ≤ 122 ∨ 65 ≤ c ∧ c ≤ 90)
def digitB (c : Nat) : Bool := decide (48 ≤ c ∧ c ≤ 57)
def wordByteB (c : Nat) : Bool := letterB c || digitB c || decide (c = 45 ∨ c = 46 ∨ c = 33 ∨ c = 42 ∨ c = 95 ∨ c = 43 ∨ c = 126)
theorem ret_bool {a b : Bool} (h : a = b) : Ending.returned (.bool a) = .returned (.bool b) := by rw [h]
theorem isLetter_c (c : Nat) (w : World) : Calls Tryz.prog 61 #[.int .u8 c] w fun e w' => e = .returned (.bool (letterB c)) ∧ w = w' := by
 go_enter func61, ntmps61
 go_wp2
 all_goals (go_ret; refine ⟨ret_bool (Bool.eq_iff_iff.2 ?_), rfl⟩; simp [letterB]; omega)
theorem isDigit_c (c : Nat) (w : World) : Calls Tryz.prog 62 #[.int .u8 c] w fun e w' => e = .returned (.bool (digitB c)) ∧ w = w' := by
 go_enter func62, ntmps62
 go_wp2
 all_goals (go_ret; refine ⟨ret_bool (Bool.eq_iff_iff.2 ?_), rfl⟩; simp [digitB]; omega)
theorem isWordByte_c (c : Nat) (w : World) : Calls Tryz.prog 55 #[.int .u8 c] w fun e w' => e = .returned (.bool (wordByteB c)) ∧ w = w' := by
 go_enter func55, ntmps55
 go_wp2_with (first | (go_at_call 61; refine (isLetter_c _ _).mono ?_; rintro e w' ⟨rfl, rfl⟩) | (go_at_call 62; refine (isDigit_c _ _).mono ?_; rintro e w' ⟨rfl, rfl⟩))
 all_goals (go_ret; refine ⟨ret_bool (Bool.eq_iff_iff.2 ?_), rfl⟩; simp [wordByteB, *]; try omega)
def allB (p : Nat → Bool) (l : List UInt8) : Bool := l.all fun c => p c.toNat
theorem allB_get {p : Nat → Bool} {l : List UInt8} (h : allB p l = true) (i : Nat) (hi : i < l.length) : p (ga l i) = true := by
 unfold allB at h
 rw [List.all_eq_true] at h
 rw [ga_get _ _ hi]
 exact h _ (List.getElem_mem hi)
theorem allB_of {p : Nat → Bool} {l : List UInt8} (h : ∀ j, j < l.length → p (ga l j) = true) : allB p l = true := by
 unfold allB
 rw [List.all_eq_true]
 intro x hx
 obtain ⟨i, hi, rfl⟩ := List.getElem_of_mem hx
 have := h i hi
 rwa [ga_get _ _ hi] at this
theorem allB_not {p : Nat → Bool} {l : List UInt8} (i : Nat) (hi : i < l.length) (h : ¬ p (ga l i) = true) : allB p l = false :=
 Bool.eq_false_iff.2 fun ha => h (allB_get ha i hi)
theorem hid_succ {p : Nat → Prop} {k : Nat} (h : Hid (∀ j, j < k → p j)) (hk : p k) : Hid (∀ j, j < k + 1 → p j) := fun j hj => by
 rcases Nat.lt_succ_iff_lt_or_eq.1 hj with hj | rfl
 ·exact h.out j hj
 ·exact hk
def isWordB (l : List UInt8) : Bool := allB wordByteB l && decide (0 < l.length ∧ l.length ≤ 8192)
theorem isWord_c (v : Value) (l : List UInt8) (w : World) (h : Bs w v l) : Calls Tryz.prog 28 #[v] w fun e w' => e = .returned (.bool (isWordB l)) ∧ w = w' := by
 obtain ⟨A, cp, rfl, h1, h2, h3⟩ := h
 have H3 := Lib.hid h3; clear h3
 go_enter func28, ntmps28
 go_wp2
 go_loop [3] (fun v => ∃ k : Nat, k ≤ l.length ∧ v = .int .i64 k ∧ Hid (∀ j, j < k → wordByteB (ga l j) = true)) (fun v => l.length - (intOf v).toNat)
 case atStart => exact ⟨0, Nat.zero_le _, rfl, fun j hj => by omega⟩
 case round =>
  obtain ⟨k, hk, rfl, hall⟩ := hrel
  by_cases hlt : k < l.length
  ·obtain ⟨b, o, rfl, hl, hc⟩ := H3.out (by omega)
   have hcell := hc k hlt
   clear hc
   cases hb : wordByteB (ga l k)
   all_goals go_wp2_with (go_at_call 55; refine (isWordByte_c _ _).mono ?_; rintro e w' ⟨rfl, rfl⟩)
   ·go_ret
    refine ⟨ret_bool ?_, rfl⟩
    rw [isWordB, allB_not k hlt (by rw [hb]; simp)]; rfl
   ·go_round
    case rel => exact ⟨k + 1, by omega, by go_num, hid_succ hall hb⟩
    case measure => simp [intOf]; omega
  ·obtain rfl : k = l.length := by omega
   go_wp2
   all_goals (go_ret; refine ⟨ret_bool (Bool.eq_iff_iff.2 ?_), rfl⟩; rw [isWordB, allB_of hall.out]; simp; try omega)
end Go.Proofs.YtfcllhdhfenmcaaGreatDoor
namespace Go.Proofs.YtfcllhdhfenmcaaGreatDoor
theorem infoUr : (Tryz.prog.info? 25).map (·.size) = some 10 := by kernel_rfl
theorem infoHd : (Tryz.prog.info? 34).map (·.size) = some 21 := by kernel_rfl
theorem infoMs : (Tryz.prog.info? 28).map (·.size) = some 19 := by kernel_rfl
theorem infoKV : (Tryz.prog.info? 58).map (·.size) = some 2 := by kernel_rfl
theorem infoSU : (Tryz.prog.info? 74).map (·.size) = some 10 := by kernel_rfl
end Go.Proofs.YtfcllhdhfenmcaaGreatDoor
namespace Go.Proofs.YtfcllhdhfenmcaaGreatDoor
open Go.RowKit Go.Proofs.Tryz
def lowB (c : Nat) : Bool := decide (97 ≤ c ∧ c ≤ 122)
def notLowB (c : Nat) : Bool := !lowB c
def userByteB (c : Nat) : Bool := letterB c || digitB c || decide (c = 45 ∨ c = 95 ∨ c = 46 ∨ c = 33 ∨ c = 126 ∨ c = 42 ∨ c = 39)
def hostByteB (c : Nat) : Bool := letterB c || digitB c || decide (c = 45 ∨ c = 46)
def lineByteB (c : Nat) : Bool := decide (32 ≤ c ∧ c ≤ 126)
def shownByteB (c : Nat) : Bool := decide (c ≠ 34 ∧ c ≠ 92)
def isLoudB (l : By) : Bool := allB notLowB l && isWordB l
def isUserB (l : By) : Bool := allB userByteB l && decide (0 < l.length ∧ l.length ≤ 8192)
def isHostB (l : By) : Bool := allB hostByteB l && decide (0 < l.length ∧ l.length ≤ 8192)
def isLineB (l : By) : Bool := allB lineByteB l && decide (0 < l.length ∧ l.length ≤ 8192 ∧ ga l 0 ≠ 32 ∧ ga l (l.length - 1) ≠ 32)
def isShownB (l : By) : Bool := allB shownByteB l && (decide (l.length = 0) || isLineB l)
def isOwnB (l : By) : Bool := decide (2 < l.length ∧ ga l 0 = 88 ∧ ga l 1 = 45) && isWordB l
theorem isLoud_c (v : Value) (l : By) (w : World) (h : Bs w v l) : Calls Tryz.prog 10 #[v] w fun e w' => e = .returned (.bool (isLoudB l)) ∧ w = w' := by
 have hB := h
 obtain ⟨A, cp, rfl, h1, h2, h3⟩ := h
 have H3 := Lib.hid h3; clear h3
 go_enter func10, ntmps10
 go_wp2
 go_loop [3] (fun v => ∃ k : Nat, k ≤ l.length ∧ v = .int .i64 k ∧ Hid (∀ j, j < k → notLowB (ga l j) = true)) (fun v => l.length - (intOf v).toNat)
 case atStart => exact ⟨0, Nat.zero_le _, rfl, fun j hj => by omega⟩
 case round =>
  obtain ⟨k, hk, rfl, hall⟩ := hrel
  by_cases hlt : k < l.length
  ·obtain ⟨b, o, rfl, hl, hc⟩ := H3.out (by omega)
   have hcell := hc k hlt
   clear hc
   go_wp2
   all_goals first
    | (go_ret; refine ⟨ret_bool ?_, rfl⟩; rw [isLoudB, allB_not k hlt (by simp [notLowB, lowB]; omega)]; rfl)
    | (go_round
       case rel => exact ⟨k + 1, by omega, by go_num, hid_succ hall (by simp [notLowB, lowB]; omega)⟩
       case measure => simp [intOf]; omega)
  ·obtain rfl : k = l.length := by omega
   go_wp2_with (go_at_call 28; refine (isWord_c _ l _ hB).mono ?_; rintro e w' ⟨rfl, rfl⟩)
   go_ret
   refine ⟨ret_bool ?_, rfl⟩
   rw [isLoudB, allB_of hall.out]
   rfl
theorem isHost_c (v : Value) (l : By) (w : World) (h : Bs w v l) : Calls Tryz.prog 38 #[v] w fun e w' => e = .returned (.bool (isHostB l)) ∧ w = w' := by
 obtain ⟨A, cp, rfl, h1, h2, h3⟩ := h
 have H3 := Lib.hid h3; clear h3
 go_enter func38, ntmps38
 go_wp2
 go_loop [3] (fun v => ∃ k : Nat, k ≤ l.length ∧ v = .int .i64 k ∧ Hid (∀ j, j < k → hostByteB (ga l j) = true)) (fun v => l.length - (intOf v).toNat)
 case atStart => exact ⟨0, Nat.zero_le _, rfl, fun j hj => by omega⟩
 case round =>
  obtain ⟨k, hk, rfl, hall⟩ := hrel
  by_cases hlt : k < l.length
  ·obtain ⟨b, o, rfl, hl, hc⟩ := H3.out (by omega)
   have hcell := hc k hlt
   clear hc
   obtain ⟨c, hcv⟩ : ∃ c, c = ga l k := ⟨_, rfl⟩
   rw [← hcv] at hcell
   have HC := Lib.hid hcv; clear hcv
   have fin : ∀ q : Bool, hostByteB c = q → Hid (hostByteB (ga l k) = q) := fun q hq => by rw [HC.out] at hq; exact hq
   have hin : letterB c = true ∨ digitB c = true ∨ (c = 45 ∨ c = 46) ∨ (letterB c = false ∧ digitB c = false ∧ ¬ (c = 45 ∨ c = 46)) := by
    cases letterB c <;> cases digitB c <;> simp <;> omega
   have goT : hostByteB c = true → Hid (hostByteB (ga l k) = true) := fin true
   have goF : hostByteB c = false → Hid (hostByteB (ga l k) = false) := fin false
   clear fin
   rcases hin with hL | hD | (rfl | rfl) | ⟨hL, hD, hN⟩
   ·have G := goT (by simp [hostByteB, hL]); clear goT goF
    go_wp2_with (first | (go_at_call 61; refine (isLetter_c _ _).mono ?_; rintro e w' ⟨rfl, rfl⟩) | (go_at_call 62; refine (isDigit_c _ _).mono ?_; rintro e w' ⟨rfl, rfl⟩))
    go_round
    case rel => exact ⟨k + 1, by omega, by go_num, hid_succ hall G.out⟩
    case measure => simp [intOf]; omega
   ·have G := goT (by simp [hostByteB, hD]); clear goT goF
    cases hL : letterB c
    all_goals
     go_wp2_with (first | (go_at_call 61; refine (isLetter_c _ _).mono ?_; rintro e w' ⟨rfl, rfl⟩) | (go_at_call 62; refine (isDigit_c _ _).mono ?_; rintro e w' ⟨rfl, rfl⟩))
     go_round
     case rel => exact ⟨k + 1, by omega, by go_num, hid_succ hall G.out⟩
     case measure => simp [intOf]; omega
   ·have G := goT (by decide); clear goT goF
    have hL : letterB 45 = false := by decide
    have hD : digitB 45 = false := by decide
    go_wp2_with (first | (go_at_call 61; refine (isLetter_c 45 _).mono ?_; rintro e w' ⟨rfl, rfl⟩) | (go_at_call 62; refine (isDigit_c 45 _).mono ?_; rintro e w' ⟨rfl, rfl⟩))
    go_round
    case rel => exact ⟨k + 1, by omega, by go_num, hid_succ hall G.out⟩
    case measure => simp [intOf]; omega
   ·have G := goT (by decide); clear goT goF
    have hL : letterB 46 = false := by decide
    have hD : digitB 46 = false := by decide
    go_wp2_with (first | (go_at_call 61; refine (isLetter_c 46 _).mono ?_; rintro e w' ⟨rfl, rfl⟩) | (go_at_call 62; refine (isDigit_c 46 _).mono ?_; rintro e w' ⟨rfl, rfl⟩))
    go_round
    case rel => exact ⟨k + 1, by omega, by go_num, hid_succ hall G.out⟩
    case measure => simp [intOf]; omega
   ·have G := goF (by simp [hostByteB, hL, hD]; omega); clear goT goF
    simp only [not_or] at hN
    obtain ⟨n0, n1⟩ := hN
    have b45 : ((c : Int) != 45) = true := by simp; omega
    have b46 : ((c : Int) != 46) = true := by simp; omega
    go_wp2_with (first | (go_at_call 61; refine (isLetter_c _ _).mono ?_; rintro e w' ⟨rfl, rfl⟩) | (go_at_call 62; refine (isDigit_c _ _).mono ?_; rintro e w' ⟨rfl, rfl⟩))
    go_ret
    refine ⟨ret_bool ?_, rfl⟩
    rw [isHostB, allB_not k hlt (by rw [G.out]; simp)]; rfl
  ·obtain rfl : k = l.length := by omega
   go_wp2
   all_goals (go_ret; refine ⟨ret_bool (Bool.eq_iff_iff.2 ?_), rfl⟩; rw [isHostB, allB_of hall.out]; simp; try omega)
theorem isUser_c (v : Value) (l : By) (w : World) (h : Bs w v l) : Calls Tryz.prog 39 #[v] w fun e w' => e = .returned (.bool (isUserB l)) ∧ w = w' := by
 obtain ⟨A, cp, rfl, h1, h2, h3⟩ := h
 have H3 := Lib.hid h3; clear h3
 go_enter func39, ntmps39
 go_wp2
 go_loop [3] (fun v => ∃ k : Nat, k ≤ l.length ∧ v = .int .i64 k ∧ Hid (∀ j, j < k → userByteB (ga l j) = true)) (fun v => l.length - (intOf v).toNat)
 case atStart => exact ⟨0, Nat.zero_le _, rfl, fun j hj => by omega⟩
 case round =>
  obtain ⟨k, hk, rfl, hall⟩ := hrel
  by_cases hlt : k < l.length
  ·obtain ⟨b, o, rfl, hl, hc⟩ := H3.out (by omega)
   have hcell := hc k hlt
   clear hc
   obtain ⟨c, hcv⟩ : ∃ c, c = ga l k := ⟨_, rfl⟩
   rw [← hcv] at hcell
   have HC := Lib.hid hcv; clear hcv
   have fin : ∀ q : Bool, userByteB c = q → Hid (userByteB (ga l k) = q) := fun q hq => by rw [HC.out] at hq; exact hq
   have hin : letterB c = true ∨ digitB c = true ∨ (c = 45 ∨ c = 95 ∨ c = 46 ∨ c = 33 ∨ c = 126 ∨ c = 42 ∨ c = 39) ∨ (letterB c = false ∧ digitB c = false ∧ ¬ (c = 45 ∨ c = 95 ∨ c = 46 ∨ c = 33 ∨ c = 126 ∨ c = 42 ∨ c = 39)) := by
    cases letterB c <;> cases digitB c <;> simp <;> omega
   have goT : userByteB c = true → Hid (userByteB (ga l k) = true) := fin true
   have goF : userByteB c = false → Hid (userByteB (ga l k) = false) := fin false
   clear fin
   rcases hin with hL | hD | (rfl | rfl | rfl | rfl | rfl | rfl | rfl) | ⟨hL, hD, hN⟩
   ·have G := goT (by simp [userByteB, hL]); clear goT goF
    go_wp2_with (first | (go_at_call 61; refine (isLetter_c _ _).mono ?_; rintro e w' ⟨rfl, rfl⟩) | (go_at_call 62; refine (isDigit_c _ _).mono ?_; rintro e w' ⟨rfl, rfl⟩))
    go_round
    case rel => exact ⟨k + 1, by omega, by go_num, hid_succ hall G.out⟩
    case measure => simp [intOf]; omega
   ·have G := goT (by simp [userByteB, hD]); clear goT goF
    cases hL : letterB c
    all_goals
     go_wp2_with (first | (go_at_call 61; refine (isLetter_c _ _).mono ?_; rintro e w' ⟨rfl, rfl⟩) | (go_at_call 62; refine (isDigit_c _ _).mono ?_; rintro e w' ⟨rfl, rfl⟩))
     go_round
     case rel => exact ⟨k + 1, by omega, by go_num, hid_succ hall G.out⟩
     case measure => simp [intOf]; omega
   ·have G := goT (by decide); clear goT goF
    have hL : letterB 45 = false := by decide
    have hD : digitB 45 = false := by decide
    go_wp2_with (first | (go_at_call 61; refine (isLetter_c 45 _).mono ?_; rintro e w' ⟨rfl, rfl⟩) | (go_at_call 62; refine (isDigit_c 45 _).mono ?_; rintro e w' ⟨rfl, rfl⟩))
    go_round
    case rel => exact ⟨k + 1, by omega, by go_num, hid_succ hall G.out⟩
    case measure => simp [intOf]; omega
   ·have G := goT (by decide); clear goT goF
    have hL : letterB 95 = false := by decide
    have hD : digitB 95 = false := by decide
    go_wp2_with (first | (go_at_call 61; refine (isLetter_c 95 _).mono ?_; rintro e w' ⟨rfl, rfl⟩) | (go_at_call 62; refine (isDigit_c 95 _).mono ?_; rintro e w' ⟨rfl, rfl⟩))
    go_round
    case rel => exact ⟨k + 1, by omega, by go_num, hid_succ hall G.out⟩
    case measure => simp [intOf]; omega
   ·have G := goT (by decide); clear goT goF
    have hL : letterB 46 = false := by decide
    have hD : digitB 46 = false := by decide
    go_wp2_with (first | (go_at_call 61; refine (isLetter_c 46 _).mono ?_; rintro e w' ⟨rfl, rfl⟩) | (go_at_call 62; refine (isDigit_c 46 _).mono ?_; rintro e w' ⟨rfl, rfl⟩))
    go_round
    case rel => exact ⟨k + 1, by omega, by go_num, hid_succ hall G.out⟩
    case measure => simp [intOf]; omega
   ·have G := goT (by decide); clear goT goF
    have hL : letterB 33 = false := by decide
    have hD : digitB 33 = false := by decide
    go_wp2_with (first | (go_at_call 61; refine (isLetter_c 33 _).mono ?_; rintro e w' ⟨rfl, rfl⟩) | (go_at_call 62; refine (isDigit_c 33 _).mono ?_; rintro e w' ⟨rfl, rfl⟩))
    go_round
    case rel => exact ⟨k + 1, by omega, by go_num, hid_succ hall G.out⟩
    case measure => simp [intOf]; omega
   ·have G := goT (by decide); clear goT goF
    have hL : letterB 126 = false := by decide
    have hD : digitB 126 = false := by decide
    go_wp2_with (first | (go_at_call 61; refine (isLetter_c 126 _).mono ?_; rintro e w' ⟨rfl, rfl⟩) | (go_at_call 62; refine (isDigit_c 126 _).mono ?_; rintro e w' ⟨rfl, rfl⟩))
    go_round
    case rel => exact ⟨k + 1, by omega, by go_num, hid_succ hall G.out⟩
    case measure => simp [intOf]; omega
   ·have G := goT (by decide); clear goT goF
    have hL : letterB 42 = false := by decide
    have hD : digitB 42 = false := by decide
    go_wp2_with (first | (go_at_call 61; refine (isLetter_c 42 _).mono ?_; rintro e w' ⟨rfl, rfl⟩) | (go_at_call 62; refine (isDigit_c 42 _).mono ?_; rintro e w' ⟨rfl, rfl⟩))
    go_round
    case rel => exact ⟨k + 1, by omega, by go_num, hid_succ hall G.out⟩
    case measure => simp [intOf]; omega
   ·have G := goT (by decide); clear goT goF
    have hL : letterB 39 = false := by decide
    have hD : digitB 39 = false := by decide
    go_wp2_with (first | (go_at_call 61; refine (isLetter_c 39 _).mono ?_; rintro e w' ⟨rfl, rfl⟩) | (go_at_call 62; refine (isDigit_c 39 _).mono ?_; rintro e w' ⟨rfl, rfl⟩))
    go_round
    case rel => exact ⟨k + 1, by omega, by go_num, hid_succ hall G.out⟩
    case measure => simp [intOf]; omega
   ·have G := goF (by simp [userByteB, hL, hD]; omega); clear goT goF
    simp only [not_or] at hN
    obtain ⟨n0, n1, n2, n3, n4, n5, n6⟩ := hN
    have b45 : ((c : Int) != 45) = true := by simp; omega
    have b95 : ((c : Int) != 95) = true := by simp; omega
    have b46 : ((c : Int) != 46) = true := by simp; omega
    have b33 : ((c : Int) != 33) = true := by simp; omega
    have b126 : ((c : Int) != 126) = true := by simp; omega
    have b42 : ((c : Int) != 42) = true := by simp; omega
    have b39 : ((c : Int) != 39) = true := by simp; omega
    go_wp2_with (first | (go_at_call 61; refine (isLetter_c _ _).mono ?_; rintro e w' ⟨rfl, rfl⟩) | (go_at_call 62; refine (isDigit_c _ _).mono ?_; rintro e w' ⟨rfl, rfl⟩))
    go_ret
    refine ⟨ret_bool ?_, rfl⟩
    rw [isUserB, allB_not k hlt (by rw [G.out]; simp)]; rfl
  ·obtain rfl : k = l.length := by omega
   go_wp2
   all_goals (go_ret; refine ⟨ret_bool (Bool.eq_iff_iff.2 ?_), rfl⟩; rw [isUserB, allB_of hall.out]; simp; try omega)
end Go.Proofs.YtfcllhdhfenmcaaGreatDoor
