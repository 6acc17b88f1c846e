/- Part 3 of the proof: laws and walks (merged by a program). -/
import Derived.Test.YtfcllhdhfenmcaaGreatDoorK01
import Derived.Test.YtfcllhdhfenmcaaGreatDoorK02
import Derived.Lib.ConvBytes
import Derived.Laws.BytesArg
import Derived.Lib.SlBytesConst
set_option linter.all false
set_option maxHeartbeats 8000000
set_option maxRecDepth 100000
namespace Go.Proofs.YtfcllhdhfenmcaaGreatDoor
open Go.RowKit Go.Proofs.Tryz
theorem isLine_c (v : Value) (l : By) (w : World) (h : Bs w v l) : Calls Tryz.prog 36 #[v] w fun e w' => e = .returned (.bool (isLineB l)) ∧ w = w' := by
 obtain ⟨A, cp, rfl, h1, h2, h3⟩ := h
 have H3 := Lib.hid h3; clear h3
 go_enter func36, ntmps36
 go_wp2
 go_loop [3] (fun v => ∃ k : Nat, k ≤ l.length ∧ v = .int .i64 k ∧ Hid (∀ j, j < k → lineByteB (ga l j) = true)) (fun v => l.length - (intOf v).toNat)
 case atStart => exact ⟨0, Nat.zero_le _, rfl, fun j hj => by omega⟩
 case round =>
  obtain ⟨k, hk, rfl, hall⟩ := hrel
  by_cases hlt : k < l.length
  ·obtain ⟨b, o, rfl, hl, hc⟩ := H3.out (by omega)
   have hcell := hc k hlt
   clear hc
   by_cases h32 : ga l k < 32
   ·go_wp2
    go_ret; refine ⟨ret_bool ?_, rfl⟩; rw [isLineB, allB_not k hlt (by simp [lineByteB]; omega)]; rfl
   ·by_cases h126 : 126 < ga l k
    ·go_wp2
     go_ret; refine ⟨ret_bool ?_, rfl⟩; rw [isLineB, allB_not k hlt (by simp [lineByteB]; omega)]; rfl
    ·have G : lineByteB (ga l k) = true := by simp [lineByteB]; omega
     have HG := Lib.hid G; clear G
     go_wp2
     go_round
     case rel => exact ⟨k + 1, by omega, by go_num, hid_succ hall HG.out⟩
     case measure => simp [intOf]; omega
  ·obtain rfl : k = l.length := by omega
   have HA := Lib.hid (allB_of hall.out)
   clear hall
   by_cases h0 : 0 < l.length
   ·obtain ⟨b, o, rfl, hl, hc⟩ := H3.out h0
    have hc0 := hc 0 h0
    have hcl := hc (l.length - 1) (by omega)
    simp only [Nat.add_zero] at hc0
    clear hc
    obtain ⟨x, hx⟩ : ∃ x, x = ga l 0 := ⟨_, rfl⟩
    obtain ⟨y, hy⟩ : ∃ y, y = ga l (l.length - 1) := ⟨_, rfl⟩
    rw [← hx] at hc0
    rw [← hy] at hcl
    have HX := Lib.hid hx; clear hx
    have HY := Lib.hid hy; clear hy
    have hidx : IntKind.i64.wrap ((l.length : Int) - 1) = (l.length : Int) - 1 := IntWalk.i64_in _ (by omega)
    by_cases hm : l.length ≤ 8192
    ·by_cases hx32 : x = 32
     ·subst hx32
      go_wp2
      all_goals (go_ret; refine ⟨ret_bool ?_, rfl⟩; rw [isLineB, HA.out, ← HX.out]; simp)
     ·have b0 : ((x : Int) != 32) = true := by simp; omega
      by_cases hy32 : y = 32
      ·subst hy32
       go_wp2
       all_goals (go_ret; refine ⟨ret_bool ?_, rfl⟩; rw [isLineB, HA.out, ← HX.out, ← HY.out]; simp)
      ·have b1 : ((y : Int) != 32) = true := by simp; omega
       go_wp2
       all_goals (go_ret; refine ⟨ret_bool ?_, rfl⟩; rw [isLineB, HA.out, ← HX.out, ← HY.out]; simp; omega)
    ·go_wp2
     go_ret; refine ⟨ret_bool ?_, rfl⟩; rw [isLineB, HA.out]; simp; omega
   ·go_wp2
    go_ret; refine ⟨ret_bool ?_, rfl⟩; rw [isLineB, HA.out]; simp; omega
theorem isShown_c (v : Value) (l : By) (w : World) (h : Bs w v l) : Calls Tryz.prog 43 #[v] w fun e w' => e = .returned (.bool (isShownB l)) ∧ w = w' := by
 have hBs := h
 obtain ⟨A, cp, rfl, h1, h2, h3⟩ := h
 have H3 := Lib.hid h3; clear h3
 go_enter func43, ntmps43
 go_wp2
 go_loop [3] (fun v => ∃ k : Nat, k ≤ l.length ∧ v = .int .i64 k ∧ Hid (∀ j, j < k → shownByteB (ga l j) = true)) (fun v => l.length - (intOf v).toNat)
 case atStart => exact ⟨0, Nat.zero_le _, rfl, fun j hj => by omega⟩
 case round =>
  obtain ⟨k, hk, rfl, hall⟩ := hrel
  by_cases hlt : k < l.length
  ·obtain ⟨b, o, rfl, hl, hc⟩ := H3.out (by omega)
   have hcell := hc k hlt
   clear hc
   obtain ⟨c, hcv⟩ : ∃ c, c = ga l k := ⟨_, rfl⟩
   rw [← hcv] at hcell
   have HC := Lib.hid hcv; clear hcv
   by_cases e1 : c = 34
   ·subst e1
    go_wp2
    go_ret; refine ⟨ret_bool ?_, rfl⟩; rw [isShownB, allB_not k hlt (by rw [← HC.out]; decide)]; rfl
   ·by_cases e2 : c = 92
    ·subst e2
     go_wp2
     go_ret; refine ⟨ret_bool ?_, rfl⟩; rw [isShownB, allB_not k hlt (by rw [← HC.out]; decide)]; rfl
    ·have b1 : ((c : Int) == 34) = false := by simp; omega
     have b2 : ((c : Int) == 92) = false := by simp; omega
     have G : shownByteB c = true := by simp [shownByteB]; omega
     rw [HC.out] at G
     have HG := Lib.hid G; clear G
     go_wp2
     go_round
     case rel => exact ⟨k + 1, by omega, by go_num, hid_succ hall HG.out⟩
     case measure => simp [intOf]; omega
  ·obtain rfl : k = l.length := by omega
   have HA := Lib.hid (allB_of hall.out)
   clear hall
   by_cases h0 : l.length = 0
   ·have h00 : ((l.length : Int) == 0) = true := beq_iff_eq.2 (by omega)
    go_wp2_with fail
    go_ret; refine ⟨ret_bool ?_, rfl⟩; rw [isShownB, HA.out]; simp [h0]
   ·have h00 : ((l.length : Int) == 0) = false := beq_eq_false_iff_ne.2 (by omega)
    go_wp2_with (go_at_call 36; refine (isLine_c _ l _ hBs).mono ?_; rintro e w' ⟨rfl, rfl⟩)
    go_ret; refine ⟨ret_bool ?_, rfl⟩; rw [isShownB, HA.out]; simp [h0]
theorem isOwn_c (v : Value) (l : By) (w : World) (h : Bs w v l) : Calls Tryz.prog 41 #[v] w fun e w' => e = .returned (.bool (isOwnB l)) ∧ w = w' := by
 have hBs := h
 obtain ⟨A, cp, rfl, h1, h2, h3⟩ := h
 by_cases hl : 2 < l.length
 ·obtain ⟨b, o, rfl, hl, hc⟩ := h3 (by omega)
  have hc0 := hc 0 (by omega)
  have hc1 := hc 1 (by omega)
  simp only [Nat.add_zero] at hc0
  clear hc h3
  obtain ⟨x, hx⟩ : ∃ x, x = ga l 0 := ⟨_, rfl⟩
  obtain ⟨y, hy⟩ : ∃ y, y = ga l 1 := ⟨_, rfl⟩
  rw [← hx] at hc0
  rw [← hy] at hc1
  have HX := Lib.hid hx; clear hx
  have HY := Lib.hid hy; clear hy
  have hid0 : 0 < l.length := by omega
  have hid1 : 1 < l.length := by omega
  have hid2 : (1 : Int) < (l.length : Int) := by omega
  by_cases hx : x = 88
  ·subst hx
   by_cases hy : y = 45
   ·subst hy
    go_enter func41, ntmps41
    go_wp2_with (go_at_call 28; refine (isWord_c _ l _ hBs).mono ?_; rintro e w' ⟨rfl, rfl⟩)
    go_ret; refine ⟨ret_bool ?_, rfl⟩; rw [isOwnB, ← HX.out, ← HY.out]; simp; omega
   ·have b1 : ((y : Int) == 45) = false := by simp; omega
    go_enter func41, ntmps41
    go_wp2_with fail
    go_ret; refine ⟨ret_bool ?_, rfl⟩; rw [isOwnB, ← HX.out, ← HY.out]; simp; omega
  ·have b1 : ((x : Int) == 88) = false := by simp; omega
   go_enter func41, ntmps41
   go_wp2_with fail
   go_ret; refine ⟨ret_bool ?_, rfl⟩; rw [isOwnB, ← HX.out]; simp; omega
 ·clear h3
  go_enter func41, ntmps41
  go_wp2_with fail
  go_ret; refine ⟨ret_bool ?_, rfl⟩; rw [isOwnB]; simp; omega
def equalB (a b : By) : Bool := decide (a = b)
theorem ga_inj {a b : By} (i : Nat) (hi : i < a.length) (hj : i < b.length) (h : ga a i = ga b i) : a[i] = b[i] := by
 rw [ga_get _ _ hi, ga_get _ _ hj] at h
 exact UInt8.toNat_inj.1 h
theorem equalB_of {a b : By} (hl : a.length = b.length) (h : ∀ j, j < a.length → ga a j = ga b j) : equalB a b = true := by
 unfold equalB
 rw [decide_eq_true_eq]
 exact List.ext_getElem hl fun i hi hj => ga_inj i hi hj (h i hi)
theorem equalB_not {a b : By} (i : Nat) (h : ga a i ≠ ga b i) : equalB a b = false := by
 unfold equalB
 rw [decide_eq_false_iff_not]
 rintro rfl
 exact h rfl
theorem equalB_len {a b : By} (h : ¬ a.length = b.length) : equalB a b = false := by
 unfold equalB
 rw [decide_eq_false_iff_not]
 rintro rfl
 exact h rfl
theorem equal_c (u v : Value) (a b : By) (w : World) (ha : Bs w u a) (hb : Bs w v b) : Calls Tryz.prog 12 #[u, v] w fun e w' => e = .returned (.bool (equalB a b)) ∧ ∃ n, w' = w.drewN n := by
 obtain ⟨A, cp, rfl, h1, h2, h3⟩ := ha
 obtain ⟨B, cq, rfl, h4, h5, h6⟩ := hb
 have H3 := Lib.hid h3; clear h3
 have H6 := Lib.hid h6; clear h6
 by_cases hl : a.length = b.length
 ·have hne : ((a.length : Int) != (b.length : Int)) = false := by rw [hl]; simp
  have HL := Lib.hid hl
  have hle : a.length ≤ b.length := by omega
  clear hl
  go_enter func12, ntmps12
  go_wp2
  go_loopw [5] (fun v wr => ∃ k n : Nat, k ≤ a.length ∧ v = .int .i64 k ∧ wr = w.drewN n ∧ Hid (∀ j, j < k → ga a j = ga b j)) (fun v _ => a.length - (intOf v).toNat)
  case atStart => exact ⟨0, 0, Nat.zero_le _, rfl, rfl, fun j hj => by omega⟩
  case round =>
   obtain ⟨k, n, hk, rfl, rfl, hall⟩ := hrel
   by_cases hlt : k < a.length
   ·obtain ⟨b1, o1, rfl, _, hc1⟩ := H3.out (by omega)
    obtain ⟨b2, o2, rfl, _, hc2⟩ := H6.out (by omega)
    have hx := hc1 k hlt
    have hy := hc2 k (by omega)
    clear hc1 hc2
    obtain ⟨x, hxv⟩ : ∃ x, x = ga a k := ⟨_, rfl⟩
    obtain ⟨y, hyv⟩ : ∃ y, y = ga b k := ⟨_, rfl⟩
    rw [← hxv] at hx
    rw [← hyv] at hy
    have HX := Lib.hid hxv; clear hxv
    have HY := Lib.hid hyv; clear hyv
    have hlt' : (k : Int) < (a.length : Int) := by omega
    have hlt2 : (k : Int) < (b.length : Int) := by omega
    by_cases hxy : x = y
    ·have hb : ((x : Int) != (y : Int)) = false := by rw [hxy]; simp
     have HXY := Lib.hid hxy; clear hxy
     go_wp2
     go_quiet (fail)
     go_wp2
     go_roundw
     case rel => exact ⟨k + 1, _, by omega, by go_num, rfl, hid_succ hall (by rw [← HX.out, ← HY.out]; exact HXY.out)⟩
     case measure => simp [intOf]; omega
    ·have hb : ((x : Int) != (y : Int)) = true := by simp; omega
     go_wp2
     go_quiet (fail)
     go_wp2
     go_ret
     exact ⟨ret_bool (by rw [equalB_not k (by rw [← HX.out, ← HY.out]; exact hxy)]), _, World.drewN_drewN ..⟩
   ·obtain rfl : k = a.length := by omega
    go_wp2
    go_ret
    exact ⟨ret_bool (by rw [equalB_of HL.out hall.out]), _, rfl⟩
 ·have hne : ((a.length : Int) != (b.length : Int)) = true := by simp; omega
  go_enter func12, ntmps12
  go_wp2
  go_ret
  exact ⟨ret_bool (by rw [equalB_len hl]), 0, rfl⟩
def mk (l : By) : ByteArray := ⟨l.toArray⟩
theorem mk_size (l : By) : (mk l).size = l.length := by simp [mk, ByteArray.size]
theorem mk_list (l : By) : (mk l).data.toList = l := by simp [mk]
theorem mk_of (s : ByteArray) : mk s.data.toList = s := by
 cases s
 simp [mk]
theorem conv_bytes {P : Program} {W : World} {v : Value} {l : By} (h : Bs W v l) (src e dst : TypeId) (hs : P.underlying src = some (.slice e)) (he : P.underlying e = some (.int .u8)) (hd : P.underlying dst = some .string) :
 (convert src dst v).run P W = .ok (.string (mk l)) W := by
 obtain ⟨A, c, rfl, h1, h2, h3⟩ := h
 rcases Nat.eq_zero_or_pos l.length with h0 | h0
 ·have hl : l = [] := List.eq_nil_of_length_eq_zero h0
  subst hl
  cases A with
  | none => exact run_convert_bytes_nil W src e hs he _ c dst hd
  | some a =>
    rw [run_convert_bytes_string W src dst e _ _ c hs he hd]
    exact run_bytesToString W a 0 c [] (by simp [loadCells, loadCellsFrom])
 ·obtain ⟨b, o, rfl, _, hc⟩ := h3 h0
  rw [run_convert_bytes_arg W src e hs he b o l.length c (l.map fun x => (x.toNat : Int)) (by simp) (fun i hi => by
   rw [hc i hi, ga_get _ _ hi]
   simp [List.getD, hi]) dst hd]
  congr 2
  simp [mk, strOfNums, Function.comp_def]
theorem bytesWorld_below (w : World) (e : TypeId) (s : ByteArray) : Below w.heap.size w (Lib.bytesWorld w e s) :=
 ⟨rfl, rfl, rfl, by rw [Lib.bytesWorld_size]; omega, fun k hk => Lib.bytesWorld_at_old w e s k hk⟩
theorem bytesWorld_bs (w : World) (e : TypeId) (s : ByteArray) (hs : s.size ≤ 4611686018427387904) :
 Bs (Lib.bytesWorld w e s) (.slice (some ⟨w.heap.size, 0, none⟩) s.size (grownCap w s.size 0 e)) s.data.toList := by
 have hl : s.data.toList.length = s.size := by simp
 have hm := grownCap_le_maxLen w s.size 0 e (by unfold maxLen; omega)
 refine ⟨some ⟨w.heap.size, 0, none⟩, grownCap w s.size 0 e, by rw [hl], by rw [hl]; exact grownCap_ge w s.size 0 e, by unfold maxLen at hm; omega, fun _ => ⟨w.heap.size, 0, rfl, by rw [Lib.bytesWorld_size]; omega, fun i hi => ?_⟩⟩
 rw [Nat.zero_add, Lib.bytesWorld_cell w e s i (by omega)]
 rfl
theorem to_bytes {P : Program} (w : World) (src dst e : TypeId) (s : ByteArray) (hs : s.size ≤ 4611686018427387904) {u : TypeDesc}
 (h1 : P.underlying src = some u) (h2 : P.underlying dst = some (.slice e)) (h3 : P.underlying e = some (.int .u8)) :
 ∃ v W, (convert src dst (.string s)).run P w = .ok v W ∧ Bs W v s.data.toList ∧ Below w.heap.size w W :=
 ⟨_, _, Lib.run_convert_string_bytes w src dst e s h1 h2 h3, bytesWorld_bs w e s hs, bytesWorld_below w e s⟩
def bcells (l : By) : Array Value := (l.map fun c => Value.int .u8 c.toNat).toArray
theorem bs_lit (w : World) (l : By) (e : TypeId) (fr : Nat × Nat) (c : Nat) (hc : l.length ≤ c) (hm : c ≤ 9223372036854775807) (C : Array Value) (hC : C = bcells l) :
 Bs (w.alloc (.cells C e fr)) (.slice (some ⟨w.heap.size, 0, none⟩) l.length c) l := by
 subst hC
 refine ⟨_, c, rfl, hc, hm, fun _ => ⟨w.heap.size, 0, rfl, by simp, fun i hi => ?_⟩⟩
 rw [cell_of_row _ _ _ _ e fr (heap_alloc_new w _), Nat.zero_add, ga_get _ _ hi]
 simp [bcells, hi]
theorem below_drewN (w : World) (n : Nat) : Below w.heap.size w (w.drewN n) := ⟨rfl, rfl, rfl, Nat.le_refl _, fun _ _ => rfl⟩
theorem is_c (v : Value) (l : By) (s : ByteArray) (w : World) (h : Bs w v l) (hs : s.size ≤ 4611686018427387904) :
 Calls Tryz.prog 17 #[v, .string s] w fun e w' => e = .returned (.bool (equalB l s.data.toList)) ∧ Below w.heap.size w w' := by
 obtain ⟨v2, W, kc, hb, hB⟩ := to_bytes (P := Tryz.prog) w 9 22 5 s hs underlying9 underlying22 underlying5
 go_enter func17, ntmps17
 go_wp2_with (go_at_call 12; refine (equal_c _ _ l s.data.toList _ (h.grow hB) hb).mono ?_; rintro e w' ⟨rfl, n, rfl⟩)
 go_ret
 exact ⟨rfl, below_then hB hB.size (below_drewN _ _)⟩
def smallN (c : Nat) : Nat := if 65 ≤ c ∧ c ≤ 90 then c + 32 else c
theorem small_c (c : Nat) (hc : c < 256) (w : World) : Calls Tryz.prog 60 #[.int .u8 c] w fun e w' => e = .returned (.int .u8 (smallN c)) ∧ w = w' := by
 by_cases h1 : 65 ≤ c
 ·by_cases h2 : c ≤ 90
  ·go_enter func60, ntmps60
   go_wp2
   go_ret
   refine ⟨?_, rfl⟩
   rw [smallN, if_pos ⟨h1, h2⟩]
   congr 2
   simp
   omega
  ·go_enter func60, ntmps60
   go_wp2
   go_ret
   refine ⟨?_, rfl⟩
   rw [smallN, if_neg (by omega)]
   rfl
 ·go_enter func60, ntmps60
  go_wp2
  go_ret
  refine ⟨?_, rfl⟩
  rw [smallN, if_neg (by omega)]
  rfl
theorem small_q (c : Nat) (hc : c < 256) (w : World) : Calls Tryz.prog 60 #[.int .u8 c] w fun e w' => e = .returned (.int .u8 (smallN c)) ∧ w' = w :=
 (small_c c hc w).mono fun _ _ h => ⟨h.1, h.2.symm⟩
theorem small_ga (l : By) (i : Nat) (w : World) : Calls Tryz.prog 60 #[.int .u8 (ga l i)] w fun e w' => e = .returned (.int .u8 (smallN (ga l i))) ∧ w' = w := small_q _ (ga_lt l i) w
def alikeB (a b : By) : Bool := decide (a.length = b.length ∧ ∀ j, j < a.length → smallN (ga a j) = smallN (ga b j))
theorem alikeB_not {a b : By} (i : Nat) (hi : i < a.length) (h : ¬ smallN (ga a i) = smallN (ga b i)) : alikeB a b = false := by
 unfold alikeB
 rw [decide_eq_false_iff_not]
 exact fun hh => h (hh.2 i hi)
theorem alike_c (u v : Value) (a b : By) (w : World) (ha : Bs w u a) (hb : Bs w v b) : Calls Tryz.prog 37 #[u, v] w fun e w' => e = .returned (.bool (alikeB a b)) ∧ ∃ n, w' = w.drewN n := by
 obtain ⟨A, cp, rfl, h1, h2, h3⟩ := ha
 obtain ⟨B, cq, rfl, h4, h5, h6⟩ := hb
 have H3 := Lib.hid h3; clear h3
 have H6 := Lib.hid h6; clear h6
 by_cases hl : a.length = b.length
 ·have hne : ((a.length : Int) != (b.length : Int)) = false := by rw [hl]; simp
  have HL := Lib.hid hl
  have hle : a.length ≤ b.length := by omega
  clear hl
  go_enter func37, ntmps37
  go_wp2
  go_loopw [5] (fun v wr => ∃ k n : Nat, k ≤ a.length ∧ v = .int .i64 k ∧ wr = w.drewN n ∧ Hid (∀ j, j < k → smallN (ga a j) = smallN (ga b j))) (fun v _ => a.length - (intOf v).toNat)
  case atStart => exact ⟨0, 0, Nat.zero_le _, rfl, rfl, fun j hj => by omega⟩
  case round =>
   obtain ⟨k, n, hk, rfl, rfl, hall⟩ := hrel
   by_cases hlt : k < a.length
   ·obtain ⟨b1, o1, rfl, _, hc1⟩ := H3.out (by omega)
    obtain ⟨b2, o2, rfl, _, hc2⟩ := H6.out (by omega)
    have hx := hc1 k hlt
    have hy := hc2 k (by omega)
    clear hc1 hc2
    have hlt' : (k : Int) < (a.length : Int) := by omega
    have hlt2 : (k : Int) < (b.length : Int) := by omega
    have ka := ga_lt a k
    have kb := ga_lt b k
    by_cases hxy : smallN (ga a k) = smallN (ga b k)
    ·have hb : ((smallN (ga a k) : Int) != (smallN (ga b k) : Int)) = false := by rw [hxy]; simp
     have HXY := Lib.hid hxy; clear hxy
     go_wp2
     go_quiet ((go_at_call 60; refine (small_ga _ _ _).mono ?_; intro e w' h; exact ⟨h.1, _, h.2⟩))
     go_wp2
     go_roundw
     case rel => exact ⟨k + 1, _, by omega, by go_num, rfl, hid_succ hall HXY.out⟩
     case measure => simp [intOf]; omega
    ·have hb : ((smallN (ga a k) : Int) != (smallN (ga b k) : Int)) = true := by simp; omega
     go_wp2
     go_quiet ((go_at_call 60; refine (small_ga _ _ _).mono ?_; intro e w' h; exact ⟨h.1, _, h.2⟩))
     go_wp2
     go_ret
     exact ⟨ret_bool (by rw [alikeB_not k hlt hxy]), _, World.drewN_drewN ..⟩
   ·obtain rfl : k = a.length := by omega
    go_wp2
    go_ret
    exact ⟨ret_bool (by unfold alikeB; simp; exact ⟨HL.out, hall.out⟩), _, rfl⟩
 ·have hne : ((a.length : Int) != (b.length : Int)) = true := by simp; omega
  go_enter func37, ntmps37
  go_wp2
  go_ret
  exact ⟨ret_bool (by unfold alikeB; simp [hl]), 0, rfl⟩
def sipB : By := [115, 105, 112]
def hasB (x : Nat) (l : By) : Bool := !allB (fun c => !decide (c = x)) l
def isReasonB (l : By) : Bool := isLineB l && (hasB 32 l || decide (l.length < 3) || !alikeB (l.take 3) sipB)
def no32 (c : Nat) : Bool := !decide (c = 32)
theorem isReason_c (v : Value) (l : By) (w : World) (h : Bs w v l) : Calls Tryz.prog 18 #[v] w fun e w' => e = .returned (.bool (isReasonB l)) ∧ Below w.heap.size w w' := by
 have hBs := h
 obtain ⟨A, cp, rfl, h1, h2, h3⟩ := h
 have H3 := Lib.hid h3; clear h3
 cases hL : isLineB l
 ·go_enter func18, ntmps18
  go_wp2_with (go_at_call 36; refine (isLine_c _ l _ hBs).mono ?_; rintro e w' ⟨rfl, rfl⟩)
  go_ret
  exact ⟨ret_bool (by rw [isReasonB, hL]; rfl), Below.refl _ _⟩
 ·go_enter func18, ntmps18
  go_wp2_with (go_at_call 36; refine (isLine_c _ l _ hBs).mono ?_; rintro e w' ⟨rfl, rfl⟩)
  go_loop [3] (fun v => ∃ k : Nat, k ≤ l.length ∧ v = .int .i64 k ∧ Hid (∀ j, j < k → no32 (ga l j) = true)) (fun v => l.length - (intOf v).toNat)
  case atStart => exact ⟨0, Nat.zero_le _, rfl, fun j hj => by omega⟩
  case round =>
   obtain ⟨k, hk, rfl, hall⟩ := hrel
   by_cases hlt : k < l.length
   ·obtain ⟨b, o, rfl, hl, hc⟩ := H3.out (by omega)
    have hcell := hc k hlt
    clear hc
    obtain ⟨c, hcv⟩ : ∃ c, c = ga l k := ⟨_, rfl⟩
    rw [← hcv] at hcell
    have HC := Lib.hid hcv; clear hcv
    by_cases e1 : c = 32
    ·subst e1
     go_wp2
     go_ret
     refine ⟨ret_bool ?_, Below.refl _ _⟩
     rw [isReasonB, hL, hasB, allB_not k hlt (by rw [← HC.out]; decide)]; rfl
    ·have b1 : ((c : Int) == 32) = false := beq_eq_false_iff_ne.2 (by omega)
     have G : no32 (ga l k) = true := by rw [← HC.out]; simp [no32]; exact e1
     have HG := Lib.hid G; clear G
     go_wp2
     go_round
     case rel => exact ⟨k + 1, by omega, by go_num, hid_succ hall HG.out⟩
     case measure => simp [intOf]; omega
   ·obtain rfl : k = l.length := by omega
    have HA := Lib.hid (allB_of hall.out)
    clear hall
    by_cases h3 : l.length < 3
    ·go_wp2
     go_ret
     refine ⟨ret_bool ?_, Below.refl _ _⟩
     rw [isReasonB, hL]; simp [h3]
    ·have hl3 : 3 ≤ l.length := by omega
     have ht := hBs.take 3 hl3
     have kc := fun (w : World) (C : Array Value) (n c : Nat) => Lib.run_convert_bytes_const (P := Tryz.prog) w 22 5 C n c underlying22 underlying5
     have hcap : 3 ≤ cp := by omega
     go_wp2_with fail
     refine (alike_c _ _ (l.take 3) sipB _ (ht.alloc _) (bs_lit w sipB _ _ 3 (by decide) (by decide) _ rfl)).mono ?_
     rintro e w' ⟨rfl, n, rfl⟩
     go_wp2_with fail
     go_ret
     refine ⟨ret_bool ?_, below_then (below_alloc _ _) (by simp) (below_drewN _ _)⟩
     have e0 : hasB 32 l = false := by unfold hasB; rw [show allB (fun c => !decide (c = 32)) l = true from HA.out]; rfl
     rw [isReasonB, hL, e0]; simp [h3]
     try (intro hh; omega)
structure KV where
 k : By
 v : By
deriving Inhabited
structure Ur where
 scheme : By
 raw : By
 star : Bool
 slashes : Bool
 user : By
 pass : By
 host : By
 port : Int
 ps : List KV
 hs : List KV
deriving Inhabited
structure Hd where
 t : Int
 name : By
 text : By
 disp : By
 uri : Ur
 ps : List KV
 num : Int
 proto : By
 ver : By
 tr : By
 host : By
 port : Int
deriving Inhabited
structure Ms where
 resp : Bool
 method : By
 uri : Ur
 code : Int
 reason : By
 ver : By
 heads : List Hd
 body : By
 hasBody : Bool
 compact : Bool
deriving Inhabited
def kvAt (l : List KV) (i : Nat) : KV := l.getD i default
def hdAt (l : List Hd) (i : Nat) : Hd := l.getD i default
theorem kvAt_get (l : List KV) (i : Nat) (h : i < l.length) : kvAt l i = l[i] := getD_lt _ _ _ h
theorem hdAt_get (l : List Hd) (i : Nat) (h : i < l.length) : hdAt l i = l[i] := getD_lt _ _ _ h
def KVs (w : World) (v : Value) (l : List KV) : Prop :=
 ∃ A c, v = .slice A l.length c ∧ l.length ≤ c ∧ c ≤ 9223372036854775807 ∧ (0 < l.length → ∃ b o, A = some ⟨b, o, none⟩ ∧ b < w.heap.size ∧
  ∀ i, i < l.length → ∃ kv vv, w.cell? ⟨b, o + i * 2, none⟩ = some kv ∧ w.cell? ⟨b, o + i * 2 + 1, none⟩ = some vv ∧ Bs w kv (kvAt l i).k ∧ Bs w vv (kvAt l i).v)
theorem KVs.below {w w' : World} {v : Value} {l : List KV} (h : KVs w v l) {B : Nat} (hB : w.heap.size ≤ B) (hb : Below B w w') : KVs w' v l := by
 obtain ⟨A, c, rfl, h1, h2, h3⟩ := h
 refine ⟨A, c, rfl, h1, h2, fun h0 => ?_⟩
 obtain ⟨b, o, rfl, hl, hc⟩ := h3 h0
 refine ⟨b, o, rfl, Nat.lt_of_lt_of_le hl hb.size, fun i hi => ?_⟩
 obtain ⟨kv, vv, e1, e2, r1, r2⟩ := hc i hi
 refine ⟨kv, vv, ?_, ?_, r1.below hB hb, r2.below hB hb⟩
 ·rw [hb.cell (p := ⟨b, o + i * 2, none⟩) (Nat.lt_of_lt_of_le hl hB)]; exact e1
 ·rw [hb.cell (p := ⟨b, o + i * 2 + 1, none⟩) (Nat.lt_of_lt_of_le hl hB)]; exact e2
theorem KVs.shape {w : World} {v : Value} {l : List KV} (h : KVs w v l) : ∃ A c, v = .slice A l.length c := by
 obtain ⟨A, c, rfl, _⟩ := h
 exact ⟨A, c, rfl⟩
theorem KVs.grow {w w' : World} {v : Value} {l : List KV} (h : KVs w v l) (hb : Below w.heap.size w w') : KVs w' v l := h.below (Nat.le_refl _) hb
theorem KVs.alloc {w : World} {v : Value} {l : List KV} (h : KVs w v l) (o : Obj) : KVs (w.alloc o) v l := h.grow (below_alloc w o)
theorem KVs.drewN {w : World} {v : Value} {l : List KV} (h : KVs w v l) (n : Nat) : KVs (w.drewN n) v l := h.grow ⟨rfl, rfl, rfl, Nat.le_refl _, fun _ _ => rfl⟩
theorem kvs_nil (w : World) : KVs w (.slice none 0 0) [] := ⟨none, 0, rfl, Nat.le_refl _, by omega, fun h => absurd h (by simp)⟩
structure UrR (w : World) (cs : Array Value) (u : Ur) : Prop where
 size : cs.size = 10
 scheme : ∃ v, cs[0]? = some v ∧ Bs w v u.scheme
 raw : ∃ v, cs[1]? = some v ∧ Bs w v u.raw
 star : cs[2]? = some (.bool u.star)
 slashes : cs[3]? = some (.bool u.slashes)
 user : ∃ v, cs[4]? = some v ∧ Bs w v u.user
 pass : ∃ v, cs[5]? = some v ∧ Bs w v u.pass
 host : ∃ v, cs[6]? = some v ∧ Bs w v u.host
 port : cs[7]? = some (.int .i64 u.port)
 ps : ∃ v, cs[8]? = some v ∧ KVs w v u.ps
 hs : ∃ v, cs[9]? = some v ∧ KVs w v u.hs
 portLo : -9223372036854775808 ≤ u.port
 portHi : u.port ≤ 9223372036854775807
theorem ex_bs {w w' : World} {c : Option Value} {l : By} (h : ∃ v, c = some v ∧ Bs w v l) (hb : Below w.heap.size w w') : ∃ v, c = some v ∧ Bs w' v l := by
 obtain ⟨v, h1, h2⟩ := h
 exact ⟨v, h1, h2.grow hb⟩
theorem ex_kvs {w w' : World} {c : Option Value} {l : List KV} (h : ∃ v, c = some v ∧ KVs w v l) (hb : Below w.heap.size w w') : ∃ v, c = some v ∧ KVs w' v l := by
 obtain ⟨v, h1, h2⟩ := h
 exact ⟨v, h1, h2.grow hb⟩
theorem UrR.grow {w w' : World} {cs : Array Value} {u : Ur} (h : UrR w cs u) (hb : Below w.heap.size w w') : UrR w' cs u :=
 ⟨h.size, ex_bs h.scheme hb, ex_bs h.raw hb, h.star, h.slashes, ex_bs h.user hb, ex_bs h.pass hb, ex_bs h.host hb, h.port, ex_kvs h.ps hb, ex_kvs h.hs hb, h.portLo, h.portHi⟩
theorem UrR.alloc {w : World} {cs : Array Value} {u : Ur} (h : UrR w cs u) (o : Obj) : UrR (w.alloc o) cs u := h.grow (below_alloc w o)
structure HdR (w : World) (cs : Array Value) (h : Hd) : Prop where
 size : cs.size = 21
 t : cs[0]? = some (.int .i64 h.t)
 name : ∃ v, cs[1]? = some v ∧ Bs w v h.name
 text : ∃ v, cs[2]? = some v ∧ Bs w v h.text
 disp : ∃ v, cs[3]? = some v ∧ Bs w v h.disp
 uri : UrR w (cs.extract 4 14) h.uri
 ps : ∃ v, cs[14]? = some v ∧ KVs w v h.ps
 num : cs[15]? = some (.int .u32 h.num)
 proto : ∃ v, cs[16]? = some v ∧ Bs w v h.proto
 ver : ∃ v, cs[17]? = some v ∧ Bs w v h.ver
 tr : ∃ v, cs[18]? = some v ∧ Bs w v h.tr
 host : ∃ v, cs[19]? = some v ∧ Bs w v h.host
 port : cs[20]? = some (.int .i64 h.port)
 tLo : -9223372036854775808 ≤ h.t
 tHi : h.t ≤ 9223372036854775807
 numLo : 0 ≤ h.num
 numHi : h.num ≤ 4294967295
 portLo : -9223372036854775808 ≤ h.port
 portHi : h.port ≤ 9223372036854775807
theorem HdR.grow {w w' : World} {cs : Array Value} {h : Hd} (r : HdR w cs h) (hb : Below w.heap.size w w') : HdR w' cs h :=
 ⟨r.size, r.t, ex_bs r.name hb, ex_bs r.text hb, ex_bs r.disp hb, r.uri.grow hb, ex_kvs r.ps hb, r.num, ex_bs r.proto hb, ex_bs r.ver hb, ex_bs r.tr hb, ex_bs r.host hb, r.port, r.tLo, r.tHi, r.numLo, r.numHi, r.portLo, r.portHi⟩
theorem HdR.alloc {w : World} {cs : Array Value} {h : Hd} (r : HdR w cs h) (o : Obj) : HdR (w.alloc o) cs h := r.grow (below_alloc w o)
def CellsAt (w : World) (b o : Nat) (cs : Array Value) : Prop := ∀ j v, cs[j]? = some v → w.cell? ⟨b, o + j, none⟩ = some v
theorem CellsAt.grow {w w' : World} {b o : Nat} {cs : Array Value} (h : CellsAt w b o cs) (hl : b < w.heap.size) (hb : Below w.heap.size w w') : CellsAt w' b o cs :=
 fun j v hv => (hb.cell (p := ⟨b, o + j, none⟩) hl).trans (h j v hv)
def Hds (w : World) (v : Value) (l : List Hd) : Prop :=
 ∃ A c, v = .slice A l.length c ∧ l.length ≤ c ∧ c ≤ 9223372036854775807 ∧ (0 < l.length → ∃ b o, A = some ⟨b, o, none⟩ ∧ b < w.heap.size ∧ ∀ i, i < l.length → ∃ cs, CellsAt w b (o + i * 21) cs ∧ HdR w cs (hdAt l i))
theorem Hds.grow {w w' : World} {v : Value} {l : List Hd} (h : Hds w v l) (hb : Below w.heap.size w w') : Hds w' v l := by
 obtain ⟨A, c, rfl, h1, h2, h3⟩ := h
 refine ⟨A, c, rfl, h1, h2, fun h0 => ?_⟩
 obtain ⟨b, o, rfl, hl, hc⟩ := h3 h0
 refine ⟨b, o, rfl, Nat.lt_of_lt_of_le hl hb.size, fun i hi => ?_⟩
 obtain ⟨cs, h4, h5⟩ := hc i hi
 exact ⟨cs, h4.grow hl hb, h5.grow hb⟩
theorem Hds.alloc {w : World} {v : Value} {l : List Hd} (h : Hds w v l) (o : Obj) : Hds (w.alloc o) v l := h.grow (below_alloc w o)
theorem Hds.shape {w : World} {v : Value} {l : List Hd} (h : Hds w v l) : ∃ A c, v = .slice A l.length c := by
 obtain ⟨A, c, rfl, _⟩ := h
 exact ⟨A, c, rfl⟩
theorem hds_nil (w : World) : Hds w (.slice none 0 0) [] := ⟨none, 0, rfl, Nat.le_refl _, by omega, fun h => absurd h (by simp)⟩
theorem ex_hds {w w' : World} {c : Option Value} {l : List Hd} (h : ∃ v, c = some v ∧ Hds w v l) (hb : Below w.heap.size w w') : ∃ v, c = some v ∧ Hds w' v l := by
 obtain ⟨v, h1, h2⟩ := h
 exact ⟨v, h1, h2.grow hb⟩
structure MsR (w : World) (cs : Array Value) (m : Ms) : Prop where
 size : cs.size = 19
 resp : cs[0]? = some (.bool m.resp)
 method : ∃ v, cs[1]? = some v ∧ Bs w v m.method
 uri : UrR w (cs.extract 2 12) m.uri
 code : cs[12]? = some (.int .i64 m.code)
 reason : ∃ v, cs[13]? = some v ∧ Bs w v m.reason
 ver : ∃ v, cs[14]? = some v ∧ Bs w v m.ver
 heads : ∃ v, cs[15]? = some v ∧ Hds w v m.heads
 body : ∃ v, cs[16]? = some v ∧ Bs w v m.body
 hasBody : cs[17]? = some (.bool m.hasBody)
 compact : cs[18]? = some (.bool m.compact)
 codeLo : -9223372036854775808 ≤ m.code
 codeHi : m.code ≤ 9223372036854775807
theorem MsR.grow {w w' : World} {cs : Array Value} {m : Ms} (r : MsR w cs m) (hb : Below w.heap.size w w') : MsR w' cs m :=
 ⟨r.size, r.resp, ex_bs r.method hb, r.uri.grow hb, r.code, ex_bs r.reason hb, ex_bs r.ver hb, ex_hds r.heads hb, ex_bs r.body hb, r.hasBody, r.compact, r.codeLo, r.codeHi⟩
theorem MsR.alloc {w : World} {cs : Array Value} {m : Ms} (r : MsR w cs m) (o : Obj) : MsR (w.alloc o) cs m := r.grow (below_alloc w o)
theorem bs_one {w : World} {v : Value} {l : By} (h : Bs w v l) : v.oneCell' = true := by obtain ⟨A, c, rfl⟩ := h.shape; rfl
theorem kvs_one {w : World} {v : Value} {l : List KV} (h : KVs w v l) : v.oneCell' = true := by obtain ⟨A, c, rfl⟩ := h.shape; rfl
theorem hds_one {w : World} {v : Value} {l : List Hd} (h : Hds w v l) : v.oneCell' = true := by obtain ⟨A, c, rfl⟩ := h.shape; rfl
theorem all_one {cs : Array Value} {n : Nat} (hs : cs.size = n) (h : ∀ i, i < n → ∃ v, cs[i]? = some v ∧ v.oneCell' = true) : cs.all (·.oneCell') = true := by
 rw [Array.all_eq_true]
 intro i hi
 obtain ⟨v, h1, h2⟩ := h i (by omega)
 rw [Array.getElem?_eq_getElem hi] at h1
 rw [Option.some.inj h1]
 exact h2
theorem ex_one {w : World} {c : Option Value} {l : By} (h : ∃ v, c = some v ∧ Bs w v l) : ∃ v, c = some v ∧ v.oneCell' = true := by
 obtain ⟨v, h1, h2⟩ := h
 exact ⟨v, h1, bs_one h2⟩
theorem ex_one2 {w : World} {c : Option Value} {l : List KV} (h : ∃ v, c = some v ∧ KVs w v l) : ∃ v, c = some v ∧ v.oneCell' = true := by
 obtain ⟨v, h1, h2⟩ := h
 exact ⟨v, h1, kvs_one h2⟩
theorem UrR.cell {w : World} {cs : Array Value} {u : Ur} (h : UrR w cs u) (i : Nat) (hi : i < 10) : ∃ v, cs[i]? = some v ∧ v.oneCell' = true := by
 match i, hi with
 | 0, _ => exact ex_one h.scheme
 | 1, _ => exact ex_one h.raw
 | 2, _ => exact ⟨_, h.star, rfl⟩
 | 3, _ => exact ⟨_, h.slashes, rfl⟩
 | 4, _ => exact ex_one h.user
 | 5, _ => exact ex_one h.pass
 | 6, _ => exact ex_one h.host
 | 7, _ => exact ⟨_, h.port, rfl⟩
 | 8, _ => exact ex_one2 h.ps
 | 9, _ => exact ex_one2 h.hs
theorem UrR.one {w : World} {cs : Array Value} {u : Ur} (h : UrR w cs u) : cs.all (·.oneCell') = true := all_one h.size h.cell
theorem ext_cell {cs : Array Value} {a b : Nat} {i : Nat} (hi : a + i < b) (hb : b ≤ cs.size) : (cs.extract a b)[i]? = cs[a + i]? := by
 rw [Array.getElem?_extract, Nat.min_eq_left hb, if_pos (by omega)]
theorem HdR.cell {w : World} {cs : Array Value} {h : Hd} (r : HdR w cs h) (i : Nat) (hi : i < 21) : ∃ v, cs[i]? = some v ∧ v.oneCell' = true := by
 by_cases hu : 4 ≤ i ∧ i < 14
 ·obtain ⟨j, rfl⟩ : ∃ j, i = 4 + j := ⟨i - 4, by omega⟩
  have := r.uri.cell j (by omega)
  rwa [ext_cell (by omega) (by rw [r.size]; omega)] at this
 ·rcases (show i = 0 ∨ i = 1 ∨ i = 2 ∨ i = 3 ∨ i = 14 ∨ i = 15 ∨ i = 16 ∨ i = 17 ∨ i = 18 ∨ i = 19 ∨ i = 20 by omega) with rfl | rfl | rfl | rfl | rfl | rfl | rfl | rfl | rfl | rfl | rfl
  ·exact ⟨_, r.t, rfl⟩
  ·exact ex_one r.name
  ·exact ex_one r.text
  ·exact ex_one r.disp
  ·exact ex_one2 r.ps
  ·exact ⟨_, r.num, rfl⟩
  ·exact ex_one r.proto
  ·exact ex_one r.ver
  ·exact ex_one r.tr
  ·exact ex_one r.host
  ·exact ⟨_, r.port, rfl⟩
theorem HdR.one {w : World} {cs : Array Value} {h : Hd} (r : HdR w cs h) : cs.all (·.oneCell') = true := all_one r.size r.cell
theorem cells_new (w : World) (cs : Array Value) (T : TypeId) (fr : Nat × Nat) : CellsAt (w.alloc (.cells cs T fr)) w.heap.size 0 cs := fun j v hv => by
 rw [cell_of_row _ _ _ cs T fr (heap_alloc_new w _), Nat.zero_add]
 exact hv
theorem CellsAt.part {w : World} {b o : Nat} {cs : Array Value} (h : CellsAt w b o cs) (a e : Nat) (he : e ≤ cs.size) : CellsAt w b (o + a) (cs.extract a e) := fun j v hv => by
 have hj : a + j < e := by
  have := (Array.getElem?_eq_some_iff.1 hv).1
  simp [Nat.min_eq_left he] at this
  omega
 rw [ext_cell hj he] at hv
 have := h _ v hv
 rwa [show o + (a + j) = o + a + j by omega] at this
def Small (l : By) : Prop := l.length ≤ 1048576
structure KV.Small (x : KV) : Prop where
 k : x.k.length ≤ 1048576
 v : x.v.length ≤ 1048576
structure SmallKVs (l : List KV) : Prop where
 len : l.length ≤ 1048576
 each : ∀ i, i < l.length → (kvAt l i).Small
structure Ur.Small (u : Ur) : Prop where
 scheme : u.scheme.length ≤ 1048576
 raw : u.raw.length ≤ 1048576
 user : u.user.length ≤ 1048576
 pass : u.pass.length ≤ 1048576
 host : u.host.length ≤ 1048576
 ps : SmallKVs u.ps
 hs : SmallKVs u.hs
structure Hd.Small (h : Hd) : Prop where
 name : h.name.length ≤ 1048576
 text : h.text.length ≤ 1048576
 disp : h.disp.length ≤ 1048576
 uri : h.uri.Small
 ps : SmallKVs h.ps
 proto : h.proto.length ≤ 1048576
 ver : h.ver.length ≤ 1048576
 tr : h.tr.length ≤ 1048576
 host : h.host.length ≤ 1048576
structure SmallHds (l : List Hd) : Prop where
 len : l.length ≤ 1048576
 each : ∀ i, i < l.length → (hdAt l i).Small
structure Ms.Small (m : Ms) : Prop where
 method : m.method.length ≤ 1048576
 uri : m.uri.Small
 reason : m.reason.length ≤ 1048576
 ver : m.ver.length ≤ 1048576
 heads : SmallHds m.heads
 body : m.body.length ≤ 1048576
def isOnceB (l : List KV) : Bool := decide (∀ i, i < l.length → ∀ k, k < i → alikeB (kvAt l i).k (kvAt l k).k = false)
theorem isOnceB_not {l : List KV} (i k : Nat) (hi : i < l.length) (hk : k < i) (h : alikeB (kvAt l i).k (kvAt l k).k = true) : isOnceB l = false := by
 unfold isOnceB
 rw [decide_eq_false_iff_not]
 intro hh
 rw [hh i hi k hk] at h
 cases h
theorem Bs.dn {w : World} {v : Value} {l : By} (h : Bs w v l) (n : Nat) : Bs (w.drewN n) v l := h.drewN n
theorem isOnce_c (v : Value) (l : List KV) (w : World) (h : KVs w v l) : Calls Tryz.prog 63 #[v] w fun e w' => e = .returned (.bool (isOnceB l)) ∧ ∃ n, w' = w.drewN n := by
 obtain ⟨A, cp, rfl, h1, h2, h3⟩ := h
 have H3 := Lib.hid h3; clear h3
 go_enter func63, ntmps63
 go_wp2
 go_loopw [3] (fun v wr => ∃ i n : Nat, i ≤ l.length ∧ v = .int .i64 i ∧ wr = w.drewN n ∧ Hid (∀ j, j < i → ∀ k, k < j → alikeB (kvAt l j).k (kvAt l k).k = false)) (fun v _ => l.length - (intOf v).toNat)
 case atStart => exact ⟨0, 0, Nat.zero_le _, rfl, rfl, fun j hj => by omega⟩
 case round =>
  obtain ⟨i, n, hi, rfl, rfl, hall⟩ := hrel
  by_cases hlt : i < l.length
  ·obtain ⟨b, o, rfl, _, hc⟩ := H3.out (by omega)
   have HC := Lib.hid hc
   obtain ⟨kv, vv, e1, _, r1, _⟩ := hc i hlt
   clear hc
   have hlt' : (i : Int) < (l.length : Int) := by omega
   obtain ⟨wo, hwo⟩ : ∃ wo : World, wo = w.drewN n := ⟨_, rfl⟩
   have e1' : wo.cell? ⟨b, o + i * 2, none⟩ = some kv := by rw [hwo]; exact e1
   have r1' : Bs wo kv (kvAt l i).k := by rw [hwo]; exact r1.drewN n
   rw [← hwo]
   have HW := Lib.hid hwo; clear hwo e1 r1
   go_wp2
   go_loopw [4] (fun v wr => ∃ k m : Nat, k ≤ i ∧ v = .int .i64 k ∧ wr = wo.drewN m ∧ Hid (∀ j, j < k → alikeB (kvAt l i).k (kvAt l j).k = false)) (fun v _ => i - (intOf v).toNat)
   case atStart => exact ⟨0, 0, Nat.zero_le _, rfl, rfl, fun j hj => by omega⟩
   case round =>
    obtain ⟨k, m, hk, rfl, rfl, hal⟩ := hrel
    by_cases hkl : k < i
    ·obtain ⟨kv2, vv2, e2, _, r2, _⟩ := HC.out k (by omega)
     have e2' : wo.cell? ⟨b, o + k * 2, none⟩ = some kv2 := by rw [HW.out]; exact e2
     have r2' : Bs wo kv2 (kvAt l k).k := by rw [HW.out]; exact r2.drewN n
     clear e2 r2
     have hkl' : (k : Int) < (l.length : Int) := by omega
     cases hA : alikeB (kvAt l i).k (kvAt l k).k
     all_goals
      go_wp2
      go_quiet ((go_at_call 37; refine (alike_c _ _ _ _ _ (r1'.drewN _) (r2'.drewN _)).mono ?_; intro e w' h; obtain ⟨he, q, hq⟩ := h; rw [hA] at he; exact ⟨he, _, by rw [hq, World.drewN_drewN, Nat.add_assoc]⟩))
      go_wp2
     ·go_roundw
      case rel => exact ⟨k + 1, _, by omega, by go_num, rfl, hid_succ hal hA⟩
      case measure => simp [intOf]; omega
     ·go_ret
      exact ⟨ret_bool (by rw [isOnceB_not i k hlt hkl hA]), _, by rw [HW.out, World.drewN_drewN, World.drewN_drewN]⟩
    ·obtain rfl : k = i := by omega
     go_wp2
     go_roundw
     case rel => exact ⟨k + 1, _, by omega, by go_num, by rw [HW.out, World.drewN_drewN], hid_succ hall hal.out⟩
     case measure => simp [intOf]; omega
  ·obtain rfl : i = l.length := by omega
   go_wp2
   go_ret
   exact ⟨ret_bool (by unfold isOnceB; rw [eq_comm, decide_eq_true_eq]; exact hall.out), _, rfl⟩
def parB (filled : Bool) (x : KV) : Bool := isWordB x.k && (isWordB x.v || (!filled && decide (x.v.length = 0)))
def isParamsB (l : List KV) (filled : Bool) : Bool := decide (l.length ≤ 64) && (decide (∀ i, i < l.length → parB filled (kvAt l i) = true) && isOnceB l)
theorem isParamsB_not {l : List KV} {filled : Bool} (i : Nat) (hi : i < l.length) (h : parB filled (kvAt l i) = false) : isParamsB l filled = false := by
 unfold isParamsB
 have : decide (∀ i, i < l.length → parB filled (kvAt l i) = true) = false := by
  rw [decide_eq_false_iff_not]
  intro hh
  rw [hh i hi] at h
  cases h
 rw [this]
 simp
theorem isParams_c (v : Value) (l : List KV) (f : Bool) (w : World) (h : KVs w v l) : Calls Tryz.prog 40 #[v, .bool f] w fun e w' => e = .returned (.bool (isParamsB l f)) ∧ ∃ n, w' = w.drewN n := by
 have hK := h
 obtain ⟨A, cp, rfl, h1, h2, h3⟩ := h
 have H3 := Lib.hid h3; clear h3
 by_cases h64 : 64 < l.length
 ·go_enter func40, ntmps40
  go_wp2
  go_ret
  exact ⟨ret_bool (by unfold isParamsB; simp; intro _; omega), 0, rfl⟩
 ·go_enter func40, ntmps40
  go_wp2
  go_loop [5] (fun v => ∃ k : Nat, k ≤ l.length ∧ v = .int .i64 k ∧ Hid (∀ j, j < k → parB f (kvAt l j) = true)) (fun v => l.length - (intOf v).toNat)
  case atStart => exact ⟨0, Nat.zero_le _, rfl, fun j hj => by omega⟩
  case round =>
   obtain ⟨k, hk, rfl, hall⟩ := hrel
   by_cases hlt : k < l.length
   ·obtain ⟨b, o, rfl, _, hc⟩ := H3.out (by omega)
    obtain ⟨kv, vv, e1, e2, r1, r2⟩ := hc k hlt
    clear hc
    have hlt' : (k : Int) < (l.length : Int) := by omega
    have HP : Hid (parB f (kvAt l k) = (isWordB (kvAt l k).k && (isWordB (kvAt l k).v || (!f && decide ((kvAt l k).v.length = 0))))) := rfl
    obtain ⟨A2, c2, rfl⟩ := r2.shape
    cases hA : isWordB (kvAt l k).k
    ·go_wp2_with (first | (go_at_call 28; refine (isWord_c _ (kvAt l k).k _ r1).mono ?_; rintro e w' ⟨rfl, rfl⟩))
     go_ret
     exact ⟨ret_bool (by rw [isParamsB_not k hlt (by rw [HP.out, hA]; rfl)]), 0, rfl⟩
    ·cases hB : isWordB (kvAt l k).v
     ·cases f
      ·by_cases h0 : 0 < (kvAt l k).v.length
       ·go_wp2_with fail
        refine (isWord_c _ (kvAt l k).k _ r1).mono ?_
        rintro e w' ⟨rfl, rfl⟩
        go_wp2_with fail
        refine (isWord_c _ (kvAt l k).v _ r2).mono ?_
        rintro e w' ⟨rfl, rfl⟩
        go_wp2_with fail
        go_ret
        exact ⟨ret_bool (by rw [isParamsB_not k hlt (by rw [HP.out, hA, hB, decide_eq_false (show ¬ (kvAt l k).v.length = 0 by omega)]; rfl)]), 0, rfl⟩
       ·go_wp2_with fail
        refine (isWord_c _ (kvAt l k).k _ r1).mono ?_
        rintro e w' ⟨rfl, rfl⟩
        go_wp2_with fail
        refine (isWord_c _ (kvAt l k).v _ r2).mono ?_
        rintro e w' ⟨rfl, rfl⟩
        go_wp2_with fail
        go_round
        case rel => exact ⟨k + 1, by omega, by go_num, hid_succ hall (by rw [HP.out, hA, hB, decide_eq_true (show (kvAt l k).v.length = 0 by omega)]; rfl)⟩
        case measure => simp [intOf]; omega
      ·go_wp2_with fail
       refine (isWord_c _ (kvAt l k).k _ r1).mono ?_
       rintro e w' ⟨rfl, rfl⟩
       go_wp2_with fail
       refine (isWord_c _ (kvAt l k).v _ r2).mono ?_
       rintro e w' ⟨rfl, rfl⟩
       go_wp2_with fail
       go_ret
       exact ⟨ret_bool (by rw [isParamsB_not k hlt (by rw [HP.out, hA, hB]; simp)]), 0, rfl⟩
     ·go_wp2_with fail
      refine (isWord_c _ (kvAt l k).k _ r1).mono ?_
      rintro e w' ⟨rfl, rfl⟩
      go_wp2_with fail
      refine (isWord_c _ (kvAt l k).v _ r2).mono ?_
      rintro e w' ⟨rfl, rfl⟩
      go_wp2_with fail
      go_round
      case rel => exact ⟨k + 1, by omega, by go_num, hid_succ hall (by rw [HP.out, hA, hB]; simp)⟩
      case measure => simp [intOf]; omega
   ·obtain rfl : k = l.length := by omega
    go_wp2_with (go_at_call 63; refine (isOnce_c _ l _ hK).mono ?_; rintro e w' ⟨rfl, n, rfl⟩)
    go_ret
    refine ⟨ret_bool ?_, n, rfl⟩
    have ha : decide (∀ i, i < l.length → parB f (kvAt l i) = true) = true := decide_eq_true hall.out
    unfold isParamsB; rw [ha]; simp; intro _; omega
end Go.Proofs.YtfcllhdhfenmcaaGreatDoor
