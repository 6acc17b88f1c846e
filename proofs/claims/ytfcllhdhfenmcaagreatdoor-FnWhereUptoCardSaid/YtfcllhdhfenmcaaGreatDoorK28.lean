/- Part 28 of the proof: laws and walks (merged by a program). -/
import Derived.Test.YtfcllhdhfenmcaaGreatDoorK01
import Derived.Test.YtfcllhdhfenmcaaGreatDoorK20
import Derived.Test.YtfcllhdhfenmcaaGreatDoorK25
import Derived.Test.YtfcllhdhfenmcaaGreatDoorK27
set_option linter.all false
set_option maxHeartbeats 8000000
set_option maxRecDepth 100000
namespace Go.Proofs.YtfcllhdhfenmcaaGreatDoor
open Go.RowKit Go.Proofs.Tryz
def dport (l : ByteArray) : Int := if l = ⟨#[116, 108, 115]⟩ then 5061 else if l = ⟨#[116, 99, 112]⟩ then 5060 else if l = ⟨#[117, 100, 112]⟩ then 5060 else if l = ⟨#[119, 115]⟩ then 80 else if l = ⟨#[119, 115, 115]⟩ then 443 else 5060
theorem dport_0 (s : ByteArray) (w : World) (hA : ∀ w, Calls Tryz.prog 75 #[.string s] w fun e w' => e = .returned (.string ⟨#[116, 108, 115]⟩) ∧ Below w.heap.size w w') :
 Calls Tryz.prog 58 #[.string s] w fun e w' => e = .returned (.int .i64 5061) ∧ Below w.heap.size w w' := by
 have HA := Lib.hid hA
 clear hA
 have hS0 := Below.refl w.heap.size w
 go_enter func58, ntmps58
 go_upto_region 0 with fail
 refine pS [_] ?_
 go_upto_region 1 with fail
 refine pR [_] ?_
 refine cC func75 #[.string s] (HA.out _) ?_
 rintro e w1 ⟨rfl, hb1⟩
 refine cR ?_
 obtain ⟨hS1, hz1, hy1⟩ := zC hS0 hb1
 refine wN ?_
 go_upto_region 3 with fail
 refine pS [.bool true, _] ?_
 go_upto_region 4 with fail
 refine pS [_] ?_
 go_wp2
 go_ret
 exact ⟨rfl, hS1⟩
theorem dport_1 (s : ByteArray) (w : World) (hA : ∀ w, Calls Tryz.prog 75 #[.string s] w fun e w' => e = .returned (.string ⟨#[116, 99, 112]⟩) ∧ Below w.heap.size w w') :
 Calls Tryz.prog 58 #[.string s] w fun e w' => e = .returned (.int .i64 5060) ∧ Below w.heap.size w w' := by
 have HA := Lib.hid hA
 clear hA
 have hS0 := Below.refl w.heap.size w
 go_enter func58, ntmps58
 go_upto_region 0 with fail
 refine pS [_] ?_
 go_upto_region 1 with fail
 refine pR [_] ?_
 refine cC func75 #[.string s] (HA.out _) ?_
 rintro e w1 ⟨rfl, hb1⟩
 refine cR ?_
 obtain ⟨hS1, hz1, hy1⟩ := zC hS0 hb1
 refine wN ?_
 go_upto_region 3 with fail
 refine pS [.bool false, _] ?_
 go_upto_region 5 with fail
 refine pS [.bool true, _] ?_
 go_upto_region 6 with fail
 refine pS [_] ?_
 go_wp2
 go_ret
 exact ⟨rfl, hS1⟩
theorem dport_2 (s : ByteArray) (w : World) (hA : ∀ w, Calls Tryz.prog 75 #[.string s] w fun e w' => e = .returned (.string ⟨#[117, 100, 112]⟩) ∧ Below w.heap.size w w') :
 Calls Tryz.prog 58 #[.string s] w fun e w' => e = .returned (.int .i64 5060) ∧ Below w.heap.size w w' := by
 have HA := Lib.hid hA
 clear hA
 have hS0 := Below.refl w.heap.size w
 go_enter func58, ntmps58
 go_upto_region 0 with fail
 refine pS [_] ?_
 go_upto_region 1 with fail
 refine pR [_] ?_
 refine cC func75 #[.string s] (HA.out _) ?_
 rintro e w1 ⟨rfl, hb1⟩
 refine cR ?_
 obtain ⟨hS1, hz1, hy1⟩ := zC hS0 hb1
 refine wN ?_
 go_upto_region 3 with fail
 refine pS [.bool false, _] ?_
 go_upto_region 5 with fail
 refine pS [.bool false, _] ?_
 go_upto_region 7 with fail
 refine pS [.bool true, _] ?_
 go_upto_region 8 with fail
 refine pS [_] ?_
 go_wp2
 go_ret
 exact ⟨rfl, hS1⟩
theorem dport_3 (s : ByteArray) (w : World) (hA : ∀ w, Calls Tryz.prog 75 #[.string s] w fun e w' => e = .returned (.string ⟨#[119, 115]⟩) ∧ Below w.heap.size w w') :
 Calls Tryz.prog 58 #[.string s] w fun e w' => e = .returned (.int .i64 80) ∧ Below w.heap.size w w' := by
 have HA := Lib.hid hA
 clear hA
 have hS0 := Below.refl w.heap.size w
 go_enter func58, ntmps58
 go_upto_region 0 with fail
 refine pS [_] ?_
 go_upto_region 1 with fail
 refine pR [_] ?_
 refine cC func75 #[.string s] (HA.out _) ?_
 rintro e w1 ⟨rfl, hb1⟩
 refine cR ?_
 obtain ⟨hS1, hz1, hy1⟩ := zC hS0 hb1
 refine wN ?_
 go_upto_region 3 with fail
 refine pS [.bool false, _] ?_
 go_upto_region 5 with fail
 refine pS [.bool false, _] ?_
 go_upto_region 7 with fail
 refine pS [.bool false, _] ?_
 go_upto_region 9 with fail
 refine pS [.bool true, _] ?_
 go_upto_region 10 with fail
 refine pS [_] ?_
 go_wp2
 go_ret
 exact ⟨rfl, hS1⟩
theorem dport_4 (s : ByteArray) (w : World) (hA : ∀ w, Calls Tryz.prog 75 #[.string s] w fun e w' => e = .returned (.string ⟨#[119, 115, 115]⟩) ∧ Below w.heap.size w w') :
 Calls Tryz.prog 58 #[.string s] w fun e w' => e = .returned (.int .i64 443) ∧ Below w.heap.size w w' := by
 have HA := Lib.hid hA
 clear hA
 have hS0 := Below.refl w.heap.size w
 go_enter func58, ntmps58
 go_upto_region 0 with fail
 refine pS [_] ?_
 go_upto_region 1 with fail
 refine pR [_] ?_
 refine cC func75 #[.string s] (HA.out _) ?_
 rintro e w1 ⟨rfl, hb1⟩
 refine cR ?_
 obtain ⟨hS1, hz1, hy1⟩ := zC hS0 hb1
 refine wN ?_
 go_upto_region 3 with fail
 refine pS [.bool false, _] ?_
 go_upto_region 5 with fail
 refine pS [.bool false, _] ?_
 go_upto_region 7 with fail
 refine pS [.bool false, _] ?_
 go_upto_region 9 with fail
 refine pS [.bool false, _] ?_
 go_upto_region 11 with fail
 refine pS [.bool true, _] ?_
 go_upto_region 12 with fail
 refine pS [_] ?_
 go_wp2
 go_ret
 exact ⟨rfl, hS1⟩
theorem dport_x (s l : ByteArray) (w : World) (hA : ∀ w, Calls Tryz.prog 75 #[.string s] w fun e w' => e = .returned (.string l) ∧ Below w.heap.size w w') (h0 : l ≠ ⟨#[116, 108, 115]⟩) (h1 : l ≠ ⟨#[116, 99, 112]⟩) (h2 : l ≠ ⟨#[117, 100, 112]⟩) (h3 : l ≠ ⟨#[119, 115]⟩) (h4 : l ≠ ⟨#[119, 115, 115]⟩) :
 Calls Tryz.prog 58 #[.string s] w fun e w' => e = .returned (.int .i64 5060) ∧ Below w.heap.size w w' := by
 have HA := Lib.hid hA
 clear hA
 have hS0 := Below.refl w.heap.size w
 go_enter func58, ntmps58
 go_upto_region 0 with fail
 refine pS [_] ?_
 go_upto_region 1 with fail
 refine pR [_] ?_
 refine cC func75 #[.string s] (HA.out _) ?_
 rintro e w1 ⟨rfl, hb1⟩
 refine cR ?_
 obtain ⟨hS1, hz1, hy1⟩ := zC hS0 hb1
 refine wN ?_
 go_upto_region 3 with fail
 apply wR
 refine isF l ⟨#[116, 108, 115]⟩ h0 ?_
 refine pQ [_] ?_
 go_upto_region 5 with fail
 apply wR
 refine isF l ⟨#[116, 99, 112]⟩ h1 ?_
 refine pQ [_] ?_
 go_upto_region 7 with fail
 apply wR
 refine isF l ⟨#[117, 100, 112]⟩ h2 ?_
 refine pQ [_] ?_
 go_upto_region 9 with fail
 apply wR
 refine isF l ⟨#[119, 115]⟩ h3 ?_
 refine pQ [_] ?_
 go_upto_region 11 with fail
 apply wR
 refine isF l ⟨#[119, 115, 115]⟩ h4 ?_
 refine pQ [_] ?_
 go_upto_region 2 with fail
 refine pS [_] ?_
 go_wp2
 go_ret
 exact ⟨rfl, hS1⟩
theorem defaultPort_c (s : ByteArray) (w : World) (hs : s.size ≤ 100000000) :
 Calls Tryz.prog 58 #[.string s] w fun e w' => e = .returned (.int .i64 (dport (lowS s))) ∧ Below w.heap.size w w' := by
 have hA := fun w => asciiToLower_c s w hs
 generalize lowS s = l at hA
 by_cases h0 : l = ⟨#[116, 108, 115]⟩
 ·subst h0
  rw [show dport ⟨#[116, 108, 115]⟩ = 5061 by kernel_rfl]
  exact dport_0 s w hA
 by_cases h1 : l = ⟨#[116, 99, 112]⟩
 ·subst h1
  rw [show dport ⟨#[116, 99, 112]⟩ = 5060 by kernel_rfl]
  exact dport_1 s w hA
 by_cases h2 : l = ⟨#[117, 100, 112]⟩
 ·subst h2
  rw [show dport ⟨#[117, 100, 112]⟩ = 5060 by kernel_rfl]
  exact dport_2 s w hA
 by_cases h3 : l = ⟨#[119, 115]⟩
 ·subst h3
  rw [show dport ⟨#[119, 115]⟩ = 80 by kernel_rfl]
  exact dport_3 s w hA
 by_cases h4 : l = ⟨#[119, 115, 115]⟩
 ·subst h4
  rw [show dport ⟨#[119, 115, 115]⟩ = 443 by kernel_rfl]
  exact dport_4 s w hA
 rw [show dport l = 5060 by unfold dport; rw [if_neg h0, if_neg h1, if_neg h2, if_neg h3, if_neg h4]]
 exact dport_x s l w hA h0 h1 h2 h3 h4
def getV (l : List PV) (nm : ByteArray) : Option ByteArray := (l.find? (fun p => decide (p.k = nm))).map (·.v)
theorem getV_at (l : List PV) (nm : ByteArray) (k : Nat) (hk : k < l.length) (h : ∀ j, j < k → (pvAt l j).k ≠ nm) (he : (pvAt l k).k = nm) : getV l nm = some (pvAt l k).v := by
 unfold getV
 rw [List.find?_eq_some_iff_getElem.2 ⟨by simpa using he, k, hk, (pvAt_get l k hk).symm, fun j hj => by
  have := h j hj
  rw [pvAt_get l j (by omega)] at this
  simpa using this⟩]
 rfl
theorem getV_none (l : List PV) (nm : ByteArray) (h : ∀ j, j < l.length → (pvAt l j).k ≠ nm) : getV l nm = none := by
 unfold getV
 rw [List.find?_eq_none.2]
 ·rfl
 ·intro x hx
  obtain ⟨j, hj, rfl⟩ := List.getElem_of_mem hx
  have := h j hj
  rw [pvAt_get l j hj] at this
  simpa using this
theorem get_c (v : Value) (l : List PV) (nm : ByteArray) (w : World) (h : HPs w v l) (hl : l.length ≤ 4000000000000) :
 Calls Tryz.prog 208 #[v, .string nm] w fun e w' => e = .returned (.tuple #[.string ((getV l nm).getD ⟨#[]⟩), .bool (getV l nm).isSome]) ∧ Below w.heap.size w w' := by
 have HH := Lib.hid h
 obtain ⟨A, c, rfl⟩ := h.shape
 clear h
 have HC := Lib.hid (fun h0 => HH.out.cells h0)
 obtain ⟨n, hn⟩ : ∃ n, n = l.length := ⟨_, rfl⟩
 rw [← hn] at hl
 have HN := Lib.hid hn
 rw [← hn] at HC
 go_enter func208, ntmps208
 rw [← hn]
 clear hn HH
 go_wp2
 go_loopw [10] (fun i wr => ∃ k : Nat, k ≤ n ∧ i = .int .i64 k ∧ Below w.heap.size w wr ∧ Hid (∀ j, j < k → (pvAt l j).k ≠ nm)) (fun i _ => n - (intOf i).toNat)
 case atStart => exact ⟨0, Nat.zero_le _, rfl, Below.refl _ _, fun j hj => absurd hj (by omega)⟩
 case round =>
  obtain ⟨k, hk, rfl, hB, hno⟩ := hrel
  by_cases hlt : k < n
  ·obtain ⟨g, o, rfl, hgl, _, hc⟩ := HC.out (by omega)
   obtain ⟨q0, q1⟩ := hc k hlt
   have c0 := (hB.cell (p := ⟨g, o + k * 2, none⟩) hgl).trans q0
   have c1 := (hB.cell (p := ⟨g, o + k * 2 + 1, none⟩) hgl).trans q1
   clear q0 q1 hc HC
   obtain ⟨x, hx⟩ : ∃ x, x = pvAt l k := ⟨_, rfl⟩
   rw [← hx] at c0 c1
   have HX := Lib.hid hx
   clear hx
   have hsz := hB.size
   have hB1 : Below w.heap.size w (wr.alloc (.cells #[.string x.k, .string x.v] 145)) := hB.alloc (by omega) _
   have hK0 := Blk.new wr #[.string x.k, .string x.v] 145
   by_cases he : x.k = nm
   ·have hg : getV l nm = some x.v := by rw [HX.out]; exact getV_at l nm k (by rw [← HN.out]; exact hlt) hno.out (by rw [← HX.out]; exact he)
    have HG := Lib.hid hg
    clear hg
    subst he
    go_wp2
    go_ret2
    exact ⟨by rw [HG.out]; rfl, hB1⟩
   ·have hno1 : Hid (∀ j, j < k + 1 → (pvAt l j).k ≠ nm) := by
     intro j hj
     rcases Nat.lt_or_ge j k with h3 | h3
     ·exact hno.out j h3
     ·obtain rfl : j = k := by omega
      rw [← HX.out]; exact he
    go_upto_region 4 with fail
    clear c0 c1
    go_upto_region 4 with fail
    refine pR [.pointer (some ⟨wr.heap.size, 0, none⟩)] ?_
    refine Wl.ld (hK0.cell 0 (.string x.k) (by kernel_rfl)) underlying9 ?_
    refine pP [_] ?_
    refine isF x.k nm he ?_
    refine wN ?_
    go_wp2
    go_roundw
    case rel => exact ⟨k + 1, by omega, by go_num, hB1, hno1⟩
    case measure => simp [intOf]; omega
  ·obtain rfl : k = n := by omega
   have hg : getV l nm = none := getV_none l nm (by rw [← HN.out]; exact hno.out)
   go_wp2
   go_ret2
   exact ⟨by rw [hg]; rfl, hB⟩
theorem lt_of_cell {w : World} {b o : Nat} {v : Value} (h : w.cell? ⟨b, o, none⟩ = some v) : b < w.heap.size := by
 rcases Nat.lt_or_ge b w.heap.size with h' | h'
 ·exact h'
 ·simp [World.cell?, Array.getElem?_eq_none h'] at h
theorem isEncrypted_c (b o : Nat) (sc : ByteArray) (w : World) (hc : w.cell? ⟨b, o, none⟩ = some (.string sc)) :
 Calls Tryz.prog 314 #[.pointer (some ⟨b, o, none⟩)] w fun e w' => e = .returned (.bool (decide (sc = ⟨#[115, 105, 112, 115]⟩))) ∧ Below w.heap.size w w' := by
 have hS0 := Below.refl w.heap.size w
 by_cases h : sc = ⟨#[115, 105, 112, 115]⟩
 ·rw [show decide (sc = ⟨#[115, 105, 112, 115]⟩) = true from decide_eq_true h]
  subst h
  go_enter func314, ntmps314
  go_wp2
  go_ret
  exact ⟨rfl, hS0⟩
 ·rw [show decide (sc = ⟨#[115, 105, 112, 115]⟩) = false from decide_eq_false h]
  go_enter func314, ntmps314
  go_upto_region 0 with fail
  refine pS [_] ?_
  go_upto_region 1 with fail
  refine pR [_, .pointer (some ⟨b, o, none⟩), .pointer (some ⟨b, o, none⟩)] ?_
  refine yb (.string sc) hS0 (yL underlying9 (fun w' h' => (h'.cell (p := ⟨b, o, none⟩) (lt_of_cell hc)).trans hc)) ?_
  refine isF sc ⟨#[115, 105, 112, 115]⟩ h ?_
  refine pQ [_] ?_
  go_wp2
  go_ret
  exact ⟨rfl, hS0⟩
theorem mdTransport_c (b : Nat) (t : ByteArray) (w : World) (hc : w.cell? ⟨b, 15, none⟩ = some (.string t)) :
 Calls Tryz.prog 213 #[.pointer (some ⟨b, 0, none⟩)] w fun e w' => e = .returned (.string t) ∧ Below w.heap.size w w' := by
 go_enter func213, ntmps213
 go_wp2
 go_ret
 exact ⟨rfl, Below.refl _ _⟩
theorem mdSource_c (b : Nat) (t : ByteArray) (w : World) (hc : w.cell? ⟨b, 16, none⟩ = some (.string t)) :
 Calls Tryz.prog 200 #[.pointer (some ⟨b, 0, none⟩)] w fun e w' => e = .returned (.string t) ∧ Below w.heap.size w w' := by
 go_enter func200, ntmps200
 go_wp2
 go_ret
 exact ⟨rfl, Below.refl _ _⟩
theorem mdDestination_c (b : Nat) (t : ByteArray) (w : World) (hc : w.cell? ⟨b, 17, none⟩ = some (.string t)) :
 Calls Tryz.prog 207 #[.pointer (some ⟨b, 0, none⟩)] w fun e w' => e = .returned (.string t) ∧ Below w.heap.size w w' := by
 go_enter func207, ntmps207
 go_wp2
 go_ret
 exact ⟨rfl, Below.refl _ _⟩
def viaS (L : List SH) : Option SH := (refT L 9).map fun i => L.getD i default
def routeS (L : List SH) : Option SH := (refT L 11).map fun i => L.getD i default
structure NoStray (L : List SH) : Prop where
 via : refT L 9 = none → NoneOf L ⟨#[118, 105, 97]⟩ ∧ NoneOf L ⟨#[118]⟩
 route : refT L 11 = none → NoneOf L ⟨#[114, 111, 117, 116, 101]⟩
structure ViaB (w : World) (bx : Nat) (x : SH) (v5 : Value) : Prop where
 blk : Blk w bx #[.string x.s1, .string x.s2, .string x.s3, .string x.s4, .int .i64 x.n, v5] 151
 ps : HPs w v5 x.ps
 lo : -9223372036854775808 ≤ x.n
 hi : x.n ≤ 9223372036854775807
structure RouteB (w : World) (bx : Nat) (u : SU) (v8 v9 : Value) : Prop where
 blk : Blk w bx (uCells u v8 v9).toArray 153
 h8 : HPs w v8 u.ps
 h9 : HPs w v9 u.hs
 lo : -9223372036854775808 ≤ u.port
 hi : u.port ≤ 9223372036854775807
theorem ViaB.grow {w w' : World} {bx : Nat} {x : SH} {v5 : Value} (h : ViaB w bx x v5) (hb : Below w.heap.size w w') : ViaB w' bx x v5 := ⟨h.blk.grow hb, h.ps.grow hb, h.lo, h.hi⟩
theorem RouteB.grow {w w' : World} {bx : Nat} {u : SU} {v8 v9 : Value} (h : RouteB w bx u v8 v9) (hb : Below w.heap.size w w') : RouteB w' bx u v8 v9 := ⟨h.blk.grow hb, h.h8.grow hb, h.h9.grow hb, h.lo, h.hi⟩
theorem arr6 {cs : Array Value} {a b c d e f : Value} (hs : cs.size = 6) (h0 : cs[0]? = some a) (h1 : cs[1]? = some b) (h2 : cs[2]? = some c) (h3 : cs[3]? = some d) (h4 : cs[4]? = some e) (h5 : cs[5]? = some f) : cs = #[a, b, c, d, e, f] := by
 apply Array.ext_getElem?
 intro i
 match i with
 | 0 => exact h0
 | 1 => exact h1
 | 2 => exact h2
 | 3 => exact h3
 | 4 => exact h4
 | 5 => exact h5
 | i + 6 =>
   rw [Array.getElem?_eq_none (by omega), Array.getElem?_eq_none (by simp)]
theorem SUR.cellsEq {w : World} {cs : Array Value} {u : SU} (h : SUR w cs u) : ∃ v8 v9, cs = (uCells u v8 v9).toArray ∧ HPs w v8 u.ps ∧ HPs w v9 u.hs := by
 obtain ⟨v8, e8, h8⟩ := h.ps
 obtain ⟨v9, e9, h9⟩ := h.hs
 refine ⟨v8, v9, ?_, h8, h9⟩
 apply Array.ext_getElem?
 intro i
 match i with
 | 0 => exact h.scheme
 | 1 => exact h.raw
 | 2 => exact h.star
 | 3 => exact h.slashes
 | 4 => exact h.user
 | 5 => exact h.pass
 | 6 => exact h.host
 | 7 => exact h.port
 | 8 => exact e8
 | 9 => exact e9
 | i + 10 =>
   rw [Array.getElem?_eq_none (by have := h.size; omega), Array.getElem?_eq_none (by simp [uCells])]
theorem HObj.via {w : World} {bx : Nat} {x : SH} (h : HObj w (.iface (tyP 9) (.pointer (some ⟨bx, 0, none⟩))) x) (hx : x.t = 9) : ∃ v5, ViaB w bx x v5 := by
 obtain ⟨b, cs, e, hh, hr⟩ := h
 injection e with _ e
 injection e with e
 injection e with e
 injection e with e _ _
 subst e
 have hv := hr.via hx
 obtain ⟨v5, e5, h5⟩ := hv.ps
 rw [arr6 hv.size hv.proto hv.ver hv.tr hv.host hv.port e5, hx] at hh
 exact ⟨v5, hh, h5, hv.lo, hv.hi⟩
theorem HObj.route {w : World} {bx : Nat} {x : SH} (h : HObj w (.iface (tyP 11) (.pointer (some ⟨bx, 0, none⟩))) x) (hx : x.t = 11) : ∃ v8 v9, RouteB w bx x.u v8 v9 := by
 obtain ⟨b, cs, e, hh, hr⟩ := h
 injection e with _ e
 injection e with e
 injection e with e
 injection e with e _ _
 subst e
 have hv := hr.route (.inl hx)
 obtain ⟨v8, v9, hc, h8, h9⟩ := hv.cellsEq
 rw [hc, hx] at hh
 exact ⟨v8, v9, hh, h8, h9, hv.portLo, hv.portHi⟩
def rqRest (ver bd meth : Value) (u : SU) (v8 v9 : Value) : List Value := [ver, bd, .string ⟨#[]⟩, .string ⟨#[]⟩, .string ⟨#[]⟩, meth] ++ uCells u v8 v9
structure RqB (base : Nat) (w : World) (b : Nat) (vals : List Value) (L : List SH) (cp : Bool) (ver bd meth : Value) (u : SU) (v8 v9 : Value) : Prop where
 hs : HsAt base w b 111 vals L cp (rqRest ver bd meth u v8 v9)
 h8 : HPs w v8 u.ps
 h9 : HPs w v9 u.hs
 lo : -9223372036854775808 ≤ u.port
 hi : u.port ≤ 9223372036854775807
theorem RqB.grow {base : Nat} {w w' : World} {b : Nat} {vals : List Value} {L : List SH} {cp : Bool} {ver bd meth : Value} {u : SU} {v8 v9 : Value} (h : RqB base w b vals L cp ver bd meth u v8 v9) (hb : Below w.heap.size w w') : RqB base w' b vals L cp ver bd meth u v8 v9 :=
 ⟨h.hs.grow hb, h.h8.grow hb, h.h9.grow hb, h.lo, h.hi⟩
theorem HsAt.vb {base : Nat} {w : World} {b : Nat} {T : TypeId} {vals : List Value} {L : List SH} {cp : Bool} {rest : List Value} (h : HsAt base w b T vals L cp rest) : ∃ P, VB w b 13 rest P [] T := by
 obtain ⟨ov, hb, _⟩ := h.blk
 exact ⟨hsCells ov vals L cp, rfl, by rw [List.append_nil]; exact hb⟩
theorem RqB.vb {base : Nat} {w : World} {b : Nat} {vals : List Value} {L : List SH} {cp : Bool} {ver bd meth : Value} {u : SU} {v8 v9 : Value} (h : RqB base w b vals L cp ver bd meth u v8 v9) :
 ∃ P, VB w b 13 [ver, bd, .string ⟨#[]⟩, .string ⟨#[]⟩, .string ⟨#[]⟩, meth, .string u.scheme, .string u.raw, .bool u.star, .bool u.slashes, .string u.user, .string u.pass, .string u.host, .int .i64 u.port, v8, v9] P [] 111 := h.hs.vb
theorem viaGet {base : Nat} {w : World} {b : Nat} {T : TypeId} {vals : List Value} {L : List SH} {cp : Bool} {rest : List Value} (h : HsAt base w b T vals L cp rest) {x : SH} (hx : viaS L = some x) :
 ∃ bx v5, ViaB w bx x v5 ∧ ∀ w', HsAt base w' b T vals L cp rest → Calls Tryz.prog 205 #[.pointer (some ⟨b, 0, none⟩)] w' fun e w'' => e = .returned (.pointer (some ⟨bx, 0, none⟩)) ∧ w' = w'' := by
 unfold viaS at hx
 cases hr : refT L 9 with
 | none => rw [hr] at hx; cases hx
 | some i =>
   rw [hr] at hx
   have hx : L.getD i default = x := by injection hx
   obtain ⟨bx, e1, e2, ho⟩ := h.refS hr
   have ht := (refT_lt hr).2
   rw [hx] at ho ht
   obtain ⟨v5, hv⟩ := ho.via ht
   refine ⟨bx, v5, hv, fun w' h' => ?_⟩
   have := refVia_some base w' b T vals L cp rest h' i hr
   rw [e1] at this
   exact this
theorem viaNo {base : Nat} {w : World} {b : Nat} {T : TypeId} {vals : List Value} {L : List SH} {cp : Bool} {rest : List Value} (h : HsAt base w b T vals L cp rest) (hn : NoStray L) (hx : viaS L = none) :
 Calls Tryz.prog 205 #[.pointer (some ⟨b, 0, none⟩)] w fun e w'' => e = .returned (.pointer none) ∧ Below w.heap.size w w'' := by
 have hr : refT L 9 = none := by unfold viaS at hx; cases hq : refT L 9 with | none => rfl | some i => rw [hq] at hx; cases hx
 exact refVia_none asciiToLower_c base w b T vals L cp rest h hr (hn.via hr)
theorem routeGet {base : Nat} {w : World} {b : Nat} {T : TypeId} {vals : List Value} {L : List SH} {cp : Bool} {rest : List Value} (h : HsAt base w b T vals L cp rest) {x : SH} (hx : routeS L = some x) :
 ∃ bx v8 v9, RouteB w bx x.u v8 v9 ∧ ∀ w', HsAt base w' b T vals L cp rest → Calls Tryz.prog 195 #[.pointer (some ⟨b, 0, none⟩)] w' fun e w'' => e = .returned (.pointer (some ⟨bx, 0, none⟩)) ∧ w' = w'' := by
 unfold routeS at hx
 cases hr : refT L 11 with
 | none => rw [hr] at hx; cases hx
 | some i =>
   rw [hr] at hx
   have hx : L.getD i default = x := by injection hx
   obtain ⟨bx, e1, e2, ho⟩ := h.refS hr
   have ht := (refT_lt hr).2
   rw [hx] at ho ht
   obtain ⟨v8, v9, hv⟩ := ho.route ht
   refine ⟨bx, v8, v9, hv, fun w' h' => ?_⟩
   have := refRoute_some base w' b T vals L cp rest h' i hr
   rw [e1] at this
   exact this
theorem routeNo {base : Nat} {w : World} {b : Nat} {T : TypeId} {vals : List Value} {L : List SH} {cp : Bool} {rest : List Value} (h : HsAt base w b T vals L cp rest) (hn : NoStray L) (hx : routeS L = none) :
 Calls Tryz.prog 195 #[.pointer (some ⟨b, 0, none⟩)] w fun e w'' => e = .returned (.pointer none) ∧ Below w.heap.size w w'' := by
 have hr : refT L 11 = none := by unfold routeS at hx; cases hq : refT L 11 with | none => rfl | some i => rw [hq] at hx; cases hx
 exact refRoute_none asciiToLower_c base w b T vals L cp rest h hr (hn.route hr)
def udpS : ByteArray := ⟨#[85, 68, 80]⟩
def trVia (x : Option SH) : ByteArray := match x with | some x => if x.s3 = ⟨#[]⟩ then udpS else x.s3 | none => udpS
def trNm : ByteArray := ⟨#[116, 114, 97, 110, 115, 112, 111, 114, 116]⟩
def upS (s : ByteArray) : ByteArray := ⟨(Lib.toUpperA s.data.toList).toArray⟩
def trUri (u : SU) (tp : ByteArray) : ByteArray := match getV u.ps trNm with | some v => if v = ⟨#[]⟩ then tp else upS v | none => tp
def trSec (u : SU) (tp : ByteArray) : ByteArray := if u.scheme = sipsS then (if tp = ⟨#[84, 67, 80]⟩ then ⟨#[84, 76, 83]⟩ else if tp = ⟨#[87, 83]⟩ then ⟨#[87, 83, 83]⟩ else tp) else tp
def trReq (L : List SH) (u : SU) : ByteArray :=
 let v := match routeS L with | some r => r.u | none => u
 trSec v (trUri v (trVia (viaS L)))
structure TrOK (u : SU) : Prop where
 len : u.ps.length ≤ 4000000000000
 asc : ∀ v, getV u.ps trNm = some v → v.size ≤ 100000000 ∧ ∀ (j : Nat) (b : UInt8), v.data.toList[j]? = some b → b.toNat < 128
theorem trVia_e {x : SH} (h : x.s3 = ⟨#[]⟩) : trVia (some x) = udpS := by simp [trVia, h]
theorem trVia_n {x : SH} (h : x.s3 ≠ ⟨#[]⟩) : trVia (some x) = x.s3 := by simp [trVia, h]
structure UVar (w : World) (b6 : Nat) (r : SU) (r8 r9 : Value) : Prop where
 blk : Blk w b6 (uCells r r8 r9).toArray 74
 h8 : HPs w r8 r.ps
theorem reqTransport_c (base : Nat) (w : World) (b : Nat) (vals : List Value) (L : List SH) (cp : Bool) (ver bd meth : Value) (u : SU) (v8 v9 : Value) (h : RqB base w b vals L cp ver bd meth u v8 v9) (hn : NoStray L)
 (hR : TrOK (match routeS L with | some r => r.u | none => u)) :
 Calls Tryz.prog 308 #[.pointer (some ⟨b, 0, none⟩)] w fun e w' => e = .returned (.string (trReq L u)) ∧ Below w.heap.size w w' := by
 obtain ⟨P, hvb⟩ := h.vb
 have hlt := hvb.lt
 have hM := mdTransport_c b ⟨#[]⟩ w (hvb.cell 2 _ rfl)
 have HN := Lib.hid hn
 have HR := Lib.hid hR
 have hs0 := Below.refl w.heap.size w
 clear hn hR
 obtain ⟨tp0, htp0⟩ : ∃ t, t = trVia (viaS L) := ⟨_, rfl⟩
 obtain ⟨r, hr⟩ : ∃ r, r = (match routeS L with | some r => r.u | none => u) := ⟨_, rfl⟩
 rw [← hr] at HR
 have HRES : Hid (trReq L u = trSec r (trUri r tp0)) := by unfold Hid trReq; rw [hr, htp0] <;> rfl
 have HTP := Lib.hid htp0
 have HRR := Lib.hid hr
 clear htp0 hr
 go_enter func308, ntmps308
 go_upto_region 0 with fail
 refine pS [_] ?_
 go_upto_region 1 with fail
 refine pR [_, .pointer (some ⟨b, 0, none⟩), .pointer (some ⟨b, 0, none⟩)] ?_
 refine cD func213 hM ?_
 rintro e w1 ⟨rfl, hb1⟩
 refine cR ?_
 obtain ⟨hS1, hz1, hy1⟩ := zC hs0 hb1
 replace h := h.grow hb1
 refine pQ [_] ?_
 go_upto_region 2 with fail
 refine pS [_, .bool false] ?_
 go_upto_region 4 with fail
 refine pS [_] ?_
 clear hvb P
 clear hM hb1
 go_step
 go_step
 go_step
 go_cut [4, 5] from 17 (fun v4 _ wx => v4 = .string tp0 ∧ Below w.heap.size w wx ∧ RqB base wx b vals L cp ver bd meth u v8 v9)
 case first =>
  cases hv : viaS L with
  | none =>
    have hV := viaNo h.hs HN.out hv
    have ht : tp0 = udpS := by have := HTP.out; rw [hv] at this; exact this
    subst ht
    go_upto_region 5 with fail
    refine pR [_, .pointer (some ⟨b, 0, none⟩), .pointer (some ⟨b, 0, none⟩), .pointer (some ⟨b, 0, none⟩)] ?_
    refine cD func205 hV ?_
    rintro e w2 ⟨rfl, hb2⟩
    refine cR ?_
    obtain ⟨hS2, hz2, hy2⟩ := zC hS1 hb2
    replace h := h.grow hb2
    refine pQ [_] ?_
    go_upto_region 6 with fail
    refine pR [_, .bool false, _] ?_
    refine Wl.u ?_
    refine Wl.u ?_
    refine Wl.u ?_
    refine Wl.u ?_
    refine Wl.u ?_
    refine pQ [.bool false] ?_
    go_upto_region 8 with fail
    refine pS [_] ?_
    go_wp2_with fail
    go_meet
    case rel => exact ⟨rfl, hS2, h⟩
  | some x =>
    obtain ⟨bx, v5, hvx, hV⟩ := viaGet h.hs hv
    have hV := hV w1 h.hs
    have hxb := hvx.blk
    by_cases he : x.s3 = ⟨#[]⟩
    ·have ht : tp0 = udpS := by have := HTP.out; rw [hv] at this; rw [this]; exact trVia_e he
     subst ht
     go_upto_region 5 with fail
     refine pR [_, .pointer (some ⟨b, 0, none⟩), .pointer (some ⟨b, 0, none⟩), .pointer (some ⟨b, 0, none⟩)] ?_
     refine cD func205 hV ?_
     rintro e _ ⟨rfl, rfl⟩
     refine cR ?_
     refine pQ [_] ?_
     go_upto_region 6 with fail
     refine pR [_, .bool true, _, _, .pointer (some ⟨bx, 0, none⟩), .pointer (some ⟨bx, 2, none⟩)] ?_
     refine Wl.ld (hxb.cell 2 (.string x.s3) (by kernel_rfl)) underlying9 ?_
     refine itF x.s3 ⟨#[]⟩ he ?_
     refine pQ [.bool false] ?_
     go_upto_region 8 with fail
     refine pS [_] ?_
     go_wp2_with fail
     go_meet
     case rel => exact ⟨rfl, hS1, h⟩
    ·have ht : tp0 = x.s3 := by have := HTP.out; rw [hv] at this; rw [this]; exact trVia_n he
     go_upto_region 5 with fail
     refine pR [_, .pointer (some ⟨b, 0, none⟩), .pointer (some ⟨b, 0, none⟩), .pointer (some ⟨b, 0, none⟩)] ?_
     refine cD func205 hV ?_
     rintro e _ ⟨rfl, rfl⟩
     refine cR ?_
     refine pQ [_] ?_
     go_upto_region 6 with fail
     refine pR [_, .bool true, _, _, .pointer (some ⟨bx, 0, none⟩), .pointer (some ⟨bx, 2, none⟩)] ?_
     refine Wl.ld (hxb.cell 2 (.string x.s3) (by kernel_rfl)) underlying9 ?_
     refine itT x.s3 ⟨#[]⟩ he ?_
     refine pQ [.bool true] ?_
     go_upto_region 7 with fail
     refine pR [_, .pointer (some ⟨bx, 0, none⟩), .pointer (some ⟨bx, 2, none⟩)] ?_
     refine Wl.ld (hxb.cell 2 (.string x.s3) (by kernel_rfl)) underlying9 ?_
     refine pQ [_] ?_
     go_wp2_with fail
     go_meet
     case rel => exact ⟨by rw [ht], hS1, h⟩
 case rest =>
  obtain ⟨rfl, hS2, h⟩ := hcut
  obtain ⟨P, hvb⟩ := h.vb
  have h8 := h.h8
  have h9 := h.h9
  obtain ⟨A8, c8, h8e⟩ := h8.shape
  obtain ⟨A9, c9, h9e⟩ := h9.shape
  obtain ⟨l8, hl8⟩ : ∃ n, n = u.ps.length := ⟨_, rfl⟩
  obtain ⟨l9, hl9⟩ : ∃ n, n = u.hs.length := ⟨_, rfl⟩
  rw [← hl8] at h8e
  rw [← hl9] at h9e
  subst h8e
  subst h9e
  have hltc := hvb.lt
  have hzc := hS2.size
  have HWC := Lib.hid h
  have hsc := Below.refl wc.heap.size wc
  go_upto_region 9 with fail
  refine pR [_, .pointer (some ⟨b, 0, none⟩), .pointer (some ⟨b, 19, none⟩)] ?_
  refine Wl.la (#[.string u.scheme, .string u.raw, .bool u.star, .bool u.slashes, .string u.user, .string u.pass, .string u.host, .int .i64 u.port, .slice A8 l8 c8, .slice A9 l9 c9]) (hvb.sub 6 _ (by kernel_rfl)) underlying74 ?_
  refine cN #[.string ⟨#[]⟩, .string ⟨#[]⟩, .bool false, .bool false, .string ⟨#[]⟩, .string ⟨#[]⟩, .string ⟨#[]⟩, .int .i64 0, .slice none 0 0, .slice none 0 0] 74 ?_
  intro b6 w21 b6_ge b6_lt h6 hb21
  obtain ⟨hS21, hz21, hy21⟩ := zC hsc hb21
  replace hvb := hvb.grow hb21
  refine wP ?_
  refine cB 74 b6 0 [.string u.scheme, .string u.raw, .bool u.star, .bool u.slashes, .string u.user, .string u.pass, .string u.host, .int .i64 u.port, .slice A8 l8 c8, .slice A9 l9 c9] 74 h6 ?_
  intro w22 h6' hO22
  replace hvb := hvb.oth hO22 (by omega)
  have hS22 := hS21.trans (hO22.below (by omega))
  have hz22 := hS22.size
  clear h6
  have h6 := h6'
  clear h6'
  have hzz22 := hO22.size
  replace hO22 := Lib.hid hO22
  refine wN ?_
  clear hvb
  have h := h.grow hS22
  have hS2 := hS2.trans (hS22.mono hS2.size)
  have h8 := h8.grow hS22
  rw [hl8] at h6 h8
  go_step
  go_step
  go_step
  go_cut [7] from 39 (fun _ wx => ∃ r8 r9, UVar wx b6 r r8 r9 ∧ Below w.heap.size w wx ∧ RqB base wx b vals L cp ver bd meth u (.slice A8 l8 c8) (.slice A9 l9 c9))
  case first =>
   cases hv : routeS L with
   | none =>
     have hV := routeNo h.hs HN.out hv
     have ht : r = u := by have := HRR.out; rw [hv] at this; exact this
     subst ht
     go_upto_region 10 with fail
     refine pR [_, .pointer (some ⟨b, 0, none⟩), .pointer (some ⟨b, 0, none⟩), .pointer (some ⟨b, 0, none⟩)] ?_
     refine cD func195 hV ?_
     rintro e w23 ⟨rfl, hb23⟩
     refine cR ?_
     obtain ⟨hS23, hz23, hy23⟩ := zC hS2 hb23
     replace h := h.grow hb23
     replace h6 := h6.grow hb23
     replace h8 := h8.grow hb23
     refine pQ [_] ?_
     go_upto_region 11 with fail
     refine pS [_, .bool false] ?_
     go_wp2_with fail
     go_meet
     case rel => exact ⟨_, _, ⟨h6, h8⟩, hS23, h⟩
   | some x =>
     obtain ⟨bx, r8, r9, hrx, hV⟩ := routeGet h.hs hv
     have hV := hV w22 h.hs
     have hxb := hrx.blk
     have hxl := hxb.lt
     have ht : r = x.u := by have := HRR.out; rw [hv] at this; exact this
     have hx8 := hrx.h8
     obtain ⟨B8, d8, h8e⟩ := hrx.h8.shape
     obtain ⟨B9, d9, h9e⟩ := hrx.h9.shape
     obtain ⟨m8, hm8⟩ : ∃ n, n = x.u.ps.length := ⟨_, rfl⟩
     obtain ⟨m9, hm9⟩ : ∃ n, n = x.u.hs.length := ⟨_, rfl⟩
     rw [← hm8] at h8e
     rw [← hm9] at h9e
     subst h8e
     subst h9e
     rw [← ht] at hxb hx8 hm8 hm9
     have hne : bx ≠ b6 := by
      rintro rfl
      have := h6.symm.trans hxb
      injection this with this
      injection this with _ this _
      cases this
     have hs3 := Below.refl 0 w22
     have HB6 := Lib.hid h6
     go_upto_region 10 with fail
     refine pR [_, .pointer (some ⟨b, 0, none⟩), .pointer (some ⟨b, 0, none⟩), .pointer (some ⟨b, 0, none⟩)] ?_
     refine cD func195 hV ?_
     rintro e _ ⟨rfl, rfl⟩
     refine cR ?_
     refine pQ [_] ?_
     go_upto_region 11 with fail
     refine pS [_, .bool true] ?_
     go_upto_region 12 with fail
     refine pR [_, .pointer (some ⟨bx, 0, none⟩), .pointer (some ⟨bx, 0, none⟩)] ?_
     refine Wl.la (#[.string r.scheme, .string r.raw, .bool r.star, .bool r.slashes, .string r.user, .string r.pass, .string r.host, .int .i64 r.port, .slice B8 m8 d8, .slice B9 m9 d9]) (hxb.sub 0 _ (by kernel_rfl)) underlying74 ?_
     refine cB 74 b6 0 [.string r.scheme, .string r.raw, .bool r.star, .bool r.slashes, .string r.user, .string r.pass, .string r.host, .int .i64 r.port, .slice B8 m8 d8, .slice B9 m9 d9] 74 h6 ?_
     intro w23 h6' hO23
     replace hxb := hxb.oth hO23 (by omega)
     have hS23 := hs3.trans (hO23.below (by omega))
     have hz23 := hS23.size
     clear h6
     have h6 := h6'
     clear h6'
     have hzz23 := hO23.size
     replace hO23 := Lib.hid hO23
     refine wN ?_
     have hB3 : Below wc.heap.size wc w23 := hS22.trans (hO23.out.below (by omega))
     have hk : Below w.heap.size w w23 := hS2.trans (hO23.out.below (by omega))
     have h := HWC.out.grow hB3
     have hx8 := hx8.kp (hO23.out.kp (HB6.out) (by decide))
     go_wp2_with fail
     go_meet
     case rel => exact ⟨_, _, ⟨h6, hx8⟩, hk, h⟩
  case rest =>
   obtain ⟨r8, r9, hU, hS3, h⟩ := hcut
   have hb6 := hU.blk
   have hr8 := hU.h8
   have hs4 := Below.refl wc.heap.size wc
   obtain ⟨A, c, hA⟩ := hr8.shape
   subst hA
   have HSC := Lib.hid hS3
   go_step
   go_step
   go_cut [4, 8, 9] from 50 (fun v4 _ _ wx => v4 = .string (trUri r tp0) ∧ Below w.heap.size w wx ∧ Blk wx b6 (uCells r (.slice A r.ps.length c) r9).toArray 74)
   case first =>
    unfold uCells at hb6
    cases A with
    | none =>
      have hnil : r.ps = [] := by
       obtain ⟨A', c', e, h1, h2, h3⟩ := hr8
       injection e with e1 e2 e3
       rcases Nat.eq_zero_or_pos r.ps.length with q | q
       ·exact List.eq_nil_of_length_eq_zero q
       ·obtain ⟨_, _, _, _, q2, _⟩ := h3 q
        rw [q2] at e1
        cases e1
      have hg : trUri r tp0 = tp0 := by unfold trUri; rw [hnil]; rfl
      go_upto_region 13 with fail
      refine pR [.pointer (some ⟨b6, 8, none⟩)] ?_
      refine Wl.ld (hb6.cell 8 (.slice none r.ps.length c) (by kernel_rfl)) underlying72 ?_
      refine pQ [.bool false] ?_
      go_wp2_with fail
      go_meet
      case rel => exact ⟨by rw [hg], HSC.out, hb6⟩
    | some ad =>
      have hlen := HR.out.len
      have hG := get_c _ r.ps trNm wc hr8 hlen
      have hasc := Lib.hid HR.out.asc
      cases hg : getV r.ps trNm with
      | none =>
        rw [hg] at hG
        have HG : Hid (Calls Tryz.prog 208 #[.slice (some ad) r.ps.length c, .string ⟨#[116, 114, 97, 110, 115, 112, 111, 114, 116]⟩] wc fun e w' => e = .returned (.tuple #[.string ⟨#[]⟩, .bool false]) ∧ Below wc.heap.size wc w') := hG
        have hg : trUri r tp0 = tp0 := by unfold trUri; rw [hg]
        clear hG
        go_upto_region 13 with fail
        refine pR [.pointer (some ⟨b6, 8, none⟩)] ?_
        refine Wl.ld (hb6.cell 8 (.slice (some ad) r.ps.length c) (by kernel_rfl)) underlying72 ?_
        refine pQ [.bool true] ?_
        go_upto_region 14 with fail
        refine pR [.pointer (some ⟨b6, 8, none⟩)] ?_
        refine Wl.ld (hb6.cell 8 (.slice (some ad) r.ps.length c) (by kernel_rfl)) underlying72 ?_
        refine cD func208 HG.out ?_
        rintro e w31 ⟨rfl, hb31⟩
        refine cR ?_
        obtain ⟨hS31, hz31, hy31⟩ := zC hs4 hb31
        replace hb6 := hb6.grow hb31
        refine pQ [_, .string ⟨#[]⟩, .bool false, _, _] ?_
        go_upto_region 15 with fail
        refine pR [_, _] ?_
        refine Wl.u ?_
        refine Wl.u ?_
        refine pQ [.bool false] ?_
        go_wp2_with fail
        go_meet
        case rel => exact ⟨by rw [hg], HSC.out.trans (hS31.mono HSC.out.size), hb6⟩
      | some v =>
        rw [hg] at hG
        have HG : Hid (Calls Tryz.prog 208 #[.slice (some ad) r.ps.length c, .string ⟨#[116, 114, 97, 110, 115, 112, 111, 114, 116]⟩] wc fun e w' => e = .returned (.tuple #[.string v, .bool true]) ∧ Below wc.heap.size wc w') := hG
        clear hG
        by_cases hv0 : v = ⟨#[]⟩
        ·have hg : trUri r tp0 = tp0 := by unfold trUri; rw [hg]; simp only []; rw [if_pos hv0]
         go_upto_region 13 with fail
         refine pR [.pointer (some ⟨b6, 8, none⟩)] ?_
         refine Wl.ld (hb6.cell 8 (.slice (some ad) r.ps.length c) (by kernel_rfl)) underlying72 ?_
         refine pQ [.bool true] ?_
         go_upto_region 14 with fail
         refine pR [.pointer (some ⟨b6, 8, none⟩)] ?_
         refine Wl.ld (hb6.cell 8 (.slice (some ad) r.ps.length c) (by kernel_rfl)) underlying72 ?_
         refine cD func208 HG.out ?_
         rintro e w31 ⟨rfl, hb31⟩
         refine cR ?_
         obtain ⟨hS31, hz31, hy31⟩ := zC hs4 hb31
         replace hb6 := hb6.grow hb31
         refine pQ [_, .string v, .bool true, _, _] ?_
         go_upto_region 15 with fail
         refine pR [_, _, _] ?_
         refine itF v ⟨#[]⟩ hv0 ?_
         refine pQ [.bool false] ?_
         go_wp2_with fail
         go_meet
         case rel => exact ⟨by rw [hg], HSC.out.trans (hS31.mono HSC.out.size), hb6⟩
        ·have hg2 : trUri r tp0 = upS v := by unfold trUri; rw [hg]; simp only []; rw [if_neg hv0]
         obtain ⟨hvs, hva⟩ := hasc.out v hg
         have hUp := fun w => Tryz.strings_ToUpper_ascii v w (by omega) hva
         have HUP : Hid (∀ w, Calls Tryz.prog 313 #[.string v] w fun e w' => e = .returned (.string (upS v)) ∧ Below w.heap.size w w') := hUp
         clear hUp hva
         go_upto_region 13 with fail
         refine pR [.pointer (some ⟨b6, 8, none⟩)] ?_
         refine Wl.ld (hb6.cell 8 (.slice (some ad) r.ps.length c) (by kernel_rfl)) underlying72 ?_
         refine pQ [.bool true] ?_
         go_upto_region 14 with fail
         refine pR [.pointer (some ⟨b6, 8, none⟩)] ?_
         refine Wl.ld (hb6.cell 8 (.slice (some ad) r.ps.length c) (by kernel_rfl)) underlying72 ?_
         refine cD func208 HG.out ?_
         rintro e w31 ⟨rfl, hb31⟩
         refine cR ?_
         obtain ⟨hS31, hz31, hy31⟩ := zC hs4 hb31
         replace hb6 := hb6.grow hb31
         refine pQ [_, .string v, .bool true, _, _] ?_
         go_upto_region 15 with fail
         refine pR [_, _, _] ?_
         refine itT v ⟨#[]⟩ hv0 ?_
         refine pQ [.bool true] ?_
         go_upto_region 16 with fail
         refine pR [_] ?_
         refine cC func313 #[.string v] (HUP.out _) ?_
         rintro e w32 ⟨rfl, hb32⟩
         refine cR ?_
         obtain ⟨hS32, hz32, hy32⟩ := zC hS31 hb32
         replace hb6 := hb6.grow hb32
         refine pQ [_] ?_
         go_wp2_with fail
         go_meet
         case rel => exact ⟨by rw [hg2], HSC.out.trans (hS32.mono HSC.out.size), hb6⟩
   case rest =>
    clear hS3 HSC hb6 hr8 h hU
    obtain ⟨rfl, hS3, hb6⟩ := hcut
    obtain ⟨tp, htp⟩ : ∃ t, t = trUri r tp0 := ⟨_, rfl⟩
    rw [← htp] at HRES ⊢
    clear htp
    have hIE := isEncrypted_c b6 0 r.scheme wc (hb6.cell 0 _ rfl)
    by_cases hsec : r.scheme = sipsS
    ·have hs2 : r.scheme = ⟨#[115, 105, 112, 115]⟩ := hsec
     rw [decide_eq_true hs2] at hIE
     by_cases e1 : tp = ⟨#[84, 67, 80]⟩
     ·have HF : Hid (trReq L u = ⟨#[84, 76, 83]⟩) := HRES.out.trans (by unfold trSec; rw [if_pos hsec, if_pos e1])
      go_upto_region 17 with fail
      apply wR
      refine cD func314 hIE ?_
      rintro e w41 ⟨rfl, hb41⟩
      refine cR ?_
      obtain ⟨hS41, hz41, hy41⟩ := zC hS3 hb41
      refine wN ?_
      go_upto_region 18 with fail
      refine pR [_] ?_
      refine isT tp ⟨#[84, 67, 80]⟩ e1 ?_
      refine wN ?_
      go_upto_region 19 with fail
      refine pS [_] ?_
      go_upto_region 22 with fail
      refine pS [_, _] ?_
      go_wp2
      go_ret
      exact ⟨by rw [HF.out]; rfl, hS41⟩
     ·by_cases e2 : tp = ⟨#[87, 83]⟩
      ·have HF : Hid (trReq L u = ⟨#[87, 83, 83]⟩) := HRES.out.trans (by unfold trSec; rw [if_pos hsec, if_neg e1, if_pos e2])
       go_upto_region 17 with fail
       apply wR
       refine cD func314 hIE ?_
       rintro e w41 ⟨rfl, hb41⟩
       refine cR ?_
       obtain ⟨hS41, hz41, hy41⟩ := zC hS3 hb41
       refine wN ?_
       go_upto_region 18 with fail
       refine pR [_] ?_
       refine isF tp ⟨#[84, 67, 80]⟩ e1 ?_
       refine wN ?_
       go_upto_region 20 with fail
       refine pR [_] ?_
       refine isT tp ⟨#[87, 83]⟩ e2 ?_
       refine wN ?_
       go_upto_region 21 with fail
       refine pS [_] ?_
       go_upto_region 22 with fail
       refine pS [_, _] ?_
       go_wp2
       go_ret
       exact ⟨by rw [HF.out]; rfl, hS41⟩
      ·have HF : Hid (trReq L u = tp) := HRES.out.trans (by unfold trSec; rw [if_pos hsec, if_neg e1, if_neg e2])
       go_upto_region 17 with fail
       apply wR
       refine cD func314 hIE ?_
       rintro e w41 ⟨rfl, hb41⟩
       refine cR ?_
       obtain ⟨hS41, hz41, hy41⟩ := zC hS3 hb41
       refine wN ?_
       go_upto_region 18 with fail
       refine pR [_] ?_
       refine isF tp ⟨#[84, 67, 80]⟩ e1 ?_
       refine wN ?_
       go_upto_region 20 with fail
       refine pR [_] ?_
       refine isF tp ⟨#[87, 83]⟩ e2 ?_
       refine wN ?_
       go_upto_region 22 with fail
       refine pS [_, _] ?_
       go_wp2
       go_ret
       exact ⟨by rw [HF.out]; rfl, hS41⟩
    ·have hs2 : ¬ r.scheme = ⟨#[115, 105, 112, 115]⟩ := hsec
     rw [decide_eq_false hs2] at hIE
     have HF : Hid (trReq L u = tp) := HRES.out.trans (by unfold trSec; rw [if_neg hsec])
     go_upto_region 17 with fail
     apply wR
     refine cD func314 hIE ?_
     rintro e w41 ⟨rfl, hb41⟩
     refine cR ?_
     obtain ⟨hS41, hz41, hy41⟩ := zC hS3 hb41
     refine wN ?_
     go_upto_region 22 with fail
     refine pS [_, _] ?_
     go_wp2
     go_ret
     exact ⟨by rw [HF.out]; rfl, hS41⟩
theorem yf_sadd {P : Program} {ops : Array Oper} {S : World → Prop} {o : Oper} {a : Act} (hw : Region.wanted o (yielded ops a.tmps) = true) (T T' : TypeId) (x y : Operand) (ho : o.op = .binOp .add T x y T') (s c : ByteArray) (hx : a.eval x = .string s) (hy : a.eval y = .string c) (h : s.size + c.size ≤ 1000000000) : YieldsIf P ops S o (.string (s ++ c)) a :=
 .inl ⟨hw, fun w _ => by
  unfold execOp
  have hq : ¬ (((s.size + c.size : Nat) : Int) > IntKind.i64.max) := by
   have : IntKind.i64.max = 9223372036854775807 := by decide
   omega
  simp [ho, hx, hy, eqGuard, binOp, Op.stringOp]
  omega⟩
theorem mk_sz (l : By) : (mk l).size = l.length := mk_size l
theorem address_raw (w0 : World) (hE : Env w0) (cs : Array Value) (u : Ur) (w : World) (hw : Below w0.heap.size w0 w) (h : UrR w cs u) (hsm : u.Small) (h1 : 0 < u.raw.length) :
 Calls Tryz.prog 51 #[.agg cs] w fun e w' => ∃ cs' u', e = .returned (.agg cs') ∧ SUR w' cs' u' ∧ UOK u' ∧ Below w.heap.size w w' := by
 have HSM : Hid (u.scheme.length ≤ 1048576 ∧ u.raw.length ≤ 1048576) := ⟨hsm.scheme, hsm.raw⟩
 clear hsm
 obtain ⟨A0, n0, A1, n1, A4, n4, A5, n5, A6, n6, A8, n8, A9, n9, e0, e1, e4, e5, e6, e8, e9, r0, r1, r4, r5, r6, r8, r9⟩ := h.shapes
 clear h e4 e5 e6 e8 e9 r4 r5 r6 r8 r9
 have hwz := hw.size
 have HW := Lib.hid hw
 clear hw
 obtain ⟨W0, hW0⟩ : ∃ W0, W0 = (w.alloc (.cells cs 25)).alloc (.cells #[.string ⟨#[]⟩, .string ⟨#[]⟩, .bool false, .bool false, .string ⟨#[]⟩, .string ⟨#[]⟩, .string ⟨#[]⟩, .int .i64 0, .slice none 0 0, .slice none 0 0] 74) := ⟨_, rfl⟩
 have HC : Hid (∀ wr, Below (w.heap.size + 1) W0 wr → wr.cell? ⟨w.heap.size, 0, none⟩ = some (.slice A0 u.scheme.length n0) ∧ wr.cell? ⟨w.heap.size, 1, none⟩ = some (.slice A1 u.raw.length n1)
  ∧ (convert 22 9 (.slice A0 u.scheme.length n0)).run Tryz.prog wr = .ok (.string (mk u.scheme)) wr ∧ (convert 22 9 (.slice A1 u.raw.length n1)).run Tryz.prog wr = .ok (.string (mk u.raw)) wr ∧ Below w.heap.size w wr) := fun wr hB => by
  have hn := cells_new w cs 25 (0, 0)
  have hsz := hB.size
  have hl : w.heap.size < W0.heap.size := by rw [hW0]; simp; omega
  have hb : Below w.heap.size w wr := by subst hW0; exact ((below_alloc w _).trans ((below_alloc _ _).mono (by simp))).trans (hB.mono (by simp))
  have q : ∀ j v, cs[j]? = some v → wr.cell? ⟨w.heap.size, j, none⟩ = some v := fun j v hv => by
   rw [hB.cell (p := ⟨w.heap.size, j, none⟩) (by show w.heap.size < _; omega), hW0, (below_alloc _ _).cell (p := ⟨w.heap.size, j, none⟩) (by simp)]
   simpa using hn j v hv
  exact ⟨q _ _ e0, q _ _ e1, conv_b (r0.grow hb), conv_b (r1.grow hb), hb⟩
 have hB0 : Below (w.heap.size + 1) W0 W0 := Below.refl _ _
 have hW0s : W0.heap.size = w.heap.size + 2 := by rw [hW0]; simp
 have hT0 : Blk W0 (w.heap.size + 1) #[.string ⟨#[]⟩, .string ⟨#[]⟩, .bool false, .bool false, .string ⟨#[]⟩, .string ⟨#[]⟩, .string ⟨#[]⟩, .int .i64 0, .slice none 0 0, .slice none 0 0] 74 := by
  rw [hW0]
  have := Blk.new (w.alloc (.cells cs 25)) #[.string ⟨#[]⟩, .string ⟨#[]⟩, .bool false, .bool false, .string ⟨#[]⟩, .string ⟨#[]⟩, .string ⟨#[]⟩, .int .i64 0, .slice none 0 0, .slice none 0 0] 74
  simpa using this
 have HW0 := Lib.hid hW0
 clear e0 e1 r0 r1 hW0
 go_enter func51, ntmps51
 go_upto_region 1 with fail
 rw [← HW0.out]
 clear HW0
 go_upto_region 1 with fail
 refine pR [.pointer (some ⟨w.heap.size, 1, none⟩)] ?_
 refine Wl.ld (v := .slice A1 u.raw.length n1) ((HC.out _ hB0).2.1) underlying22 ?_
 refine pP [.int .i64 (u.raw.length : Nat)] ?_
 refine igT .i64 (u.raw.length : Nat) 0 ?_
 refine wN ?_
 go_upto_region 2 with fail
 apply wR
 refine cN #[.string ⟨#[]⟩, .string ⟨#[]⟩, .bool false, .bool false, .string ⟨#[]⟩, .string ⟨#[]⟩, .string ⟨#[]⟩, .int .i64 0, .slice none 0 0, .slice none 0 0] 74 ?_
 intro bx w1 bx_ge bx_lt hbx hb1
 obtain ⟨hS1, hz1, hy1⟩ := zC hB0 hb1
 replace hT0 := hT0.grow hb1
 refine wP ?_
 refine wN ?_
 have hcut : ((mk u.scheme ++ (⟨#[58]⟩ : ByteArray)) ++ mk u.raw).size ≤ 100000000 := by
  have := HSM.out
  simp only [ByteArray.size_append, mk_sz]
  show u.scheme.length + 1 + _ ≤ _
  omega
 have HCUT := Lib.hid hcut
 clear hcut
 have huc : UAt w1 bx 0 [] [] 74 (default : SU) := ⟨⟨.slice none 0 0, .slice none 0 0, ⟨rfl, hbx⟩, hps_nil _, hps_nil _⟩, ⟨by decide, by decide, by decide, by decide⟩⟩
 have hq2 : Below w0.heap.size w0 w1 := HW.out.trans ((HC.out _ hS1).2.2.2.2.mono hwz)
 have hbxn : w0.heap.size ≤ bx := by omega
 have HM0 : Hid ((mk u.scheme).size + (⟨#[58]⟩ : ByteArray).size ≤ 1000000000) := by
  have := HSM.out
  unfold Hid
  rw [mk_sz]
  show _ + 1 ≤ _
  omega
 have HM1 : Hid ((mk u.scheme ++ (⟨#[58]⟩ : ByteArray)).size + (mk u.raw).size ≤ 1000000000) := by
  have := HSM.out
  unfold Hid
  simp only [ByteArray.size_append, mk_sz]
  show u.scheme.length + 1 + _ ≤ _
  omega
 clear hbx
 go_upto_region 3 with fail
 refine pR [.pointer (some ⟨w.heap.size, 0, none⟩)] ?_
 refine Wl.ld (v := .slice A0 u.scheme.length n0) ((HC.out _ hS1).1) underlying22 ?_
 refine kE 22 9 (.slice A0 u.scheme.length n0) (.string (mk u.scheme)) ((HC.out _ hS1).2.2.1) ?_
 refine yb (.string (mk u.scheme ++ (⟨#[58]⟩ : ByteArray))) hS1 (yf_sadd (by kernel_rfl) 9 9 _ _ rfl _ _ (by kernel_rfl) (by kernel_rfl) HM0.out) ?_
 refine pP [.pointer (some ⟨w.heap.size, 1, none⟩)] ?_
 refine Wl.ld (v := .slice A1 u.raw.length n1) ((HC.out _ hS1).2.1) underlying22 ?_
 refine kE 22 9 (.slice A1 u.raw.length n1) (.string (mk u.raw)) ((HC.out _ hS1).2.2.2.1) ?_
 refine yb (.string ((mk u.scheme ++ (⟨#[58]⟩ : ByteArray)) ++ mk u.raw)) hS1 (yf_sadd (by kernel_rfl) 9 9 _ _ rfl _ _ (by kernel_rfl) (by kernel_rfl) HM1.out) ?_
 refine Wl.step (fun K hK => ?_)
 refine sC func48 #[.string ((mk u.scheme ++ (⟨#[58]⟩ : ByteArray)) ++ mk u.raw), .pointer (some ⟨bx, 0, none⟩)] (parseUri_c w0 hE bx 0 [] [] 74 _ _ _ huc (by decide) HCUT.out hq2 hbxn) ?_
 rintro e w2 ⟨hst, u', hu', hor⟩
 obtain ⟨v16, rfl⟩ : ∃ v, e = .returned v := by rcases hor with ⟨_, h⟩ | ⟨_, t, p, h⟩ <;> exact ⟨_, h⟩
 refine ⟨_, rfl, ?_⟩
 replace hT0 := hst.block _ _ hT0 (by omega) (.inl (by omega))
 have hS2 : Below (w.heap.size + 1) W0 w2 := hS1.trans (hst.low (by omega) (by omega) (by omega))
 clear hor huc
 refine hK _ _ ?_
 clear hK K
 (try simp only [Act.put, zD, zE, zF])
 refine wN ?_
 obtain ⟨⟨v8, v9, hv, h8, h9⟩, hok⟩ := hu'
 unfold uCells at hv
 have hT0 : Blk w2 (w.heap.size + 1) #[.string ⟨#[]⟩, .string ⟨#[]⟩, .bool false, .bool false, .string ⟨#[]⟩, .string ⟨#[]⟩, .string ⟨#[]⟩, .int .i64 0, .slice none 0 0, .slice none 0 0] 74 := hT0
 have HOK := Lib.hid hok
 have HLA := Lib.hid (HC.out _ hS2).2.2.2.2
 obtain ⟨A8', m8, hA8⟩ := h8.shape
 obtain ⟨A9', m9, hA9⟩ := h9.shape
 subst hA8
 subst hA9
 obtain ⟨l8, hl8⟩ : ∃ n, n = u'.ps.length := ⟨_, rfl⟩
 obtain ⟨l9, hl9⟩ : ∃ n, n = u'.hs.length := ⟨_, rfl⟩
 rw [← hl8] at hv h8
 rw [← hl9] at hv h9
 have hne2 : w.heap.size + 1 < bx := by omega
 go_upto_region 4 with fail
 apply wR
 refine Wl.la (#[.string u'.scheme, .string u'.raw, .bool u'.star, .bool u'.slashes, .string u'.user, .string u'.pass, .string u'.host, .int .i64 u'.port, .slice A8' l8 m8, .slice A9' l9 m9]) (hv.sub 0 _ (by kernel_rfl)) underlying74 ?_
 refine cB 74 (w.heap.size + 1) 0 [.string u'.scheme, .string u'.raw, .bool u'.star, .bool u'.slashes, .string u'.user, .string u'.pass, .string u'.host, .int .i64 u'.port, .slice A8' l8 m8, .slice A9' l9 m9] 74 hT0 ?_
 intro w3 hT0' hO3
 replace hv := hv.oth hO3 (by omega)
 have hq := hO3.kp hT0 (by decide)
 replace h8 := h8.kp hq
 replace h9 := h9.kp hq
 clear hq
 have hS3 := hS2.trans (hO3.below (by omega))
 have hz3 := hS3.size
 clear hT0
 have hT0 := hT0'
 clear hT0'
 have hzz3 := hO3.size
 replace hO3 := Lib.hid hO3
 refine wN ?_
 go_wp2
 refine bodyPost_ret (results_cell_row rfl _ _ _ _ _ _ _ rfl hT0 underlying74 rfl infoSU) rfl ⟨_, u', rfl, ?_, HOK.out, (HC.out _ hS3).2.2.2.2⟩
 rw [hl8] at h8 ⊢
 rw [hl9] at h9 ⊢
 exact SUR.mk' h8 h9 HOK.out.lo HOK.out.hi
theorem addrAll {w : World} (hE : Env w) : AddrAll w := fun u hs cs w1 hw h => by
 rcases Nat.eq_zero_or_pos u.raw.length with h0 | h0
 ·have hr : u.raw = [] := List.eq_nil_of_length_eq_zero h0
  exact addrOK0 (w0 := w) hs hr cs w1 hw h
 ·exact (address_raw w hE cs u w1 hw h hs h0).mono fun e w' ⟨cs', u', h1, h2, h3, h4⟩ => ⟨cs', u', h1, h2, (fun hr => by rw [hr] at h0; cases h0), ⟨h3.ps, h3.hs⟩, h4⟩
structure RsB (base : Nat) (w : World) (b : Nat) (vals : List Value) (L : List SH) (cp : Bool) (ver bd reason code : Value) : Prop where
 hs : HsAt base w b 106 vals L cp [ver, bd, .string ⟨#[]⟩, .string ⟨#[]⟩, .string ⟨#[]⟩, reason, code]
theorem RsB.grow {base : Nat} {w w' : World} {b : Nat} {vals : List Value} {L : List SH} {cp : Bool} {ver bd reason code : Value} (h : RsB base w b vals L cp ver bd reason code) (hb : Below w.heap.size w w') : RsB base w' b vals L cp ver bd reason code := ⟨h.hs.grow hb⟩
theorem resTransport_c (base : Nat) (w : World) (b : Nat) (vals : List Value) (L : List SH) (cp : Bool) (ver bd reason code : Value) (h : RsB base w b vals L cp ver bd reason code) (hn : NoStray L) :
 Calls Tryz.prog 204 #[.pointer (some ⟨b, 0, none⟩)] w fun e w' => e = .returned (.string (trVia (viaS L))) ∧ Below w.heap.size w w' := by
 obtain ⟨P, hvb⟩ := h.hs.vb
 have hM := mdTransport_c b ⟨#[]⟩ w (hvb.cell 2 _ rfl)
 have HN := Lib.hid hn
 have hs0 := Below.refl w.heap.size w
 clear hn hvb
 cases hv : viaS L with
 | none =>
   go_enter func204, ntmps204
   go_upto_region 0 with fail
   refine pS [_] ?_
   go_upto_region 1 with fail
   refine pR [_, .pointer (some ⟨b, 0, none⟩), .pointer (some ⟨b, 0, none⟩)] ?_
   refine cD func213 hM ?_
   rintro e w1 ⟨rfl, hb1⟩
   refine cR ?_
   obtain ⟨hS1, hz1, hy1⟩ := zC hs0 hb1
   replace h := h.grow hb1
   refine pQ [_] ?_
   go_upto_region 2 with fail
   refine pS [_, .bool false] ?_
   go_upto_region 4 with fail
   refine pS [_] ?_
   go_upto_region 5 with fail
   refine pR [_, .pointer (some ⟨b, 0, none⟩), .pointer (some ⟨b, 0, none⟩), .pointer (some ⟨b, 0, none⟩)] ?_
   refine cD func205 (viaNo h.hs HN.out hv) ?_
   rintro e w2 ⟨rfl, hb2⟩
   refine cR ?_
   obtain ⟨hS2, hz2, hy2⟩ := zC hS1 hb2
   replace h := h.grow hb2
   refine pQ [_] ?_
   go_upto_region 6 with fail
   refine pR [_, .bool false, _] ?_
   refine Wl.u ?_
   refine Wl.u ?_
   refine Wl.u ?_
   refine Wl.u ?_
   refine Wl.u ?_
   refine pQ [.bool false] ?_
   go_upto_region 8 with fail
   refine pS [_] ?_
   go_upto_region 9 with fail
   refine pS [_, _] ?_
   go_wp2
   go_ret
   exact ⟨rfl, hS2⟩
 | some x =>
   by_cases he : x.s3 = ⟨#[]⟩
   ·rw [trVia_e he]
    obtain ⟨bx, v5, hvx, hV⟩ := viaGet h.hs hv
    have hxb := hvx.blk
    go_enter func204, ntmps204
    go_upto_region 0 with fail
    refine pS [_] ?_
    go_upto_region 1 with fail
    refine pR [_, .pointer (some ⟨b, 0, none⟩), .pointer (some ⟨b, 0, none⟩)] ?_
    refine cD func213 hM ?_
    rintro e w1 ⟨rfl, hb1⟩
    refine cR ?_
    obtain ⟨hS1, hz1, hy1⟩ := zC hs0 hb1
    replace h := h.grow hb1
    replace hxb := hxb.grow hb1
    refine pQ [_] ?_
    go_upto_region 2 with fail
    refine pS [_, .bool false] ?_
    go_upto_region 4 with fail
    refine pS [_] ?_
    go_upto_region 5 with fail
    refine pR [_, .pointer (some ⟨b, 0, none⟩), .pointer (some ⟨b, 0, none⟩), .pointer (some ⟨b, 0, none⟩)] ?_
    refine cC func205 #[.pointer (some ⟨b, 0, none⟩)] (hV _ h.hs) ?_
    rintro e _ ⟨rfl, rfl⟩
    refine cR ?_
    refine pQ [_] ?_
    go_upto_region 6 with fail
    refine pR [_, .bool true, _, _, .pointer (some ⟨bx, 0, none⟩), .pointer (some ⟨bx, 2, none⟩)] ?_
    refine Wl.ld (hxb.cell 2 (.string x.s3) (by kernel_rfl)) underlying9 ?_
    refine itF x.s3 ⟨#[]⟩ he ?_
    refine pQ [.bool false] ?_
    go_upto_region 8 with fail
    refine pS [_] ?_
    go_upto_region 9 with fail
    refine pS [_, _] ?_
    go_wp2
    go_ret
    exact ⟨rfl, hS1⟩
   ·rw [trVia_n he]
    obtain ⟨bx, v5, hvx, hV⟩ := viaGet h.hs hv
    have hxb := hvx.blk
    go_enter func204, ntmps204
    go_upto_region 0 with fail
    refine pS [_] ?_
    go_upto_region 1 with fail
    refine pR [_, .pointer (some ⟨b, 0, none⟩), .pointer (some ⟨b, 0, none⟩)] ?_
    refine cD func213 hM ?_
    rintro e w1 ⟨rfl, hb1⟩
    refine cR ?_
    obtain ⟨hS1, hz1, hy1⟩ := zC hs0 hb1
    replace h := h.grow hb1
    replace hxb := hxb.grow hb1
    refine pQ [_] ?_
    go_upto_region 2 with fail
    refine pS [_, .bool false] ?_
    go_upto_region 4 with fail
    refine pS [_] ?_
    go_upto_region 5 with fail
    refine pR [_, .pointer (some ⟨b, 0, none⟩), .pointer (some ⟨b, 0, none⟩), .pointer (some ⟨b, 0, none⟩)] ?_
    refine cC func205 #[.pointer (some ⟨b, 0, none⟩)] (hV _ h.hs) ?_
    rintro e _ ⟨rfl, rfl⟩
    refine cR ?_
    refine pQ [_] ?_
    go_upto_region 6 with fail
    refine pR [_, .bool true, _, _, .pointer (some ⟨bx, 0, none⟩), .pointer (some ⟨bx, 2, none⟩)] ?_
    refine Wl.ld (hxb.cell 2 (.string x.s3) (by kernel_rfl)) underlying9 ?_
    refine itT x.s3 ⟨#[]⟩ he ?_
    refine pQ [.bool true] ?_
    go_upto_region 7 with fail
    refine pR [_, .pointer (some ⟨bx, 0, none⟩), .pointer (some ⟨bx, 2, none⟩)] ?_
    refine Wl.ld (hxb.cell 2 (.string x.s3) (by kernel_rfl)) underlying9 ?_
    refine pQ [_] ?_
    go_upto_region 9 with fail
    refine pS [_, _] ?_
    go_wp2
    go_ret
    exact ⟨rfl, hS1⟩
def noBr (c : Nat) : Prop := c ≠ 91 ∧ c ≠ 93
theorem zzInSet_no (c : Nat) (hc : noBr c) (w : World) : Calls Tryz.prog 332 #[.int .i32 ((c : Nat) : Int), .string ⟨#[91, 93]⟩] w fun e w' => e = .returned (.bool false) ∧ Below w.heap.size w w' := by
 obtain ⟨h1, h2⟩ := hc
 go_enter func332, ntmps332
 go_wp2
 have hit0 : Itr (w.iter ⟨#[91, 93]⟩ 0) w.heap.size ⟨#[91, 93]⟩ 0 := World.iter_heap w _ 0
 have hW2 : Below w.heap.size w (w.iter ⟨#[91, 93]⟩ 0) := (Below.refl w.heap.size w).alloc (Nat.le_refl _) _
 obtain ⟨ib, hib⟩ : ∃ ib, ib = w.heap.size := ⟨_, rfl⟩
 obtain ⟨wi, hwi⟩ : ∃ wi, wi = w.iter ⟨#[91, 93]⟩ 0 := ⟨_, rfl⟩
 rw [← hib] at hit0 ⊢
 rw [← hwi] at hit0 hW2 ⊢
 rw [← hib] at hW2
 clear hwi
 go_loopw [] (fun wr => ∃ pos : Nat, pos ≤ 2 ∧ Itr wr ib ⟨#[91, 93]⟩ pos ∧ Below ib w wr) (fun wr => 2 - wr.iterPos ib)
 case atStart => exact ⟨0, by omega, hit0, hW2⟩
 case round =>
  clear hit0 hW2
  obtain ⟨pos, hp, hit, hB⟩ := hrel
  rw [hit.pos]
  have hs0 := Below.refl 0 wr
  rcases (show pos = 0 ∨ pos = 1 ∨ pos = 2 by omega) with rfl | rfl | rfl
  ·have hlt : 0 < (⟨#[91, 93]⟩ : ByteArray).size := by decide
   go_upto_region 2 with fail
   apply wR
   refine Wl.step (fun K hK => ?_)
   refine step_next rfl _ rfl ib ⟨#[91, 93]⟩ 0 (by kernel_rfl) hit hlt ?_
   intro w1 hit' hO
   have hS1 : Below 0 wr w1 := hO.below (Nat.zero_le _)
   have hB := hB.trans (hO.below (B := ib) (Nat.le_refl _))
   clear hit
   refine hK _ _ ?_
   clear hK K
   (try simp only [Act.put, zD, zE, zF])
   refine pQ [.bool true] ?_
   go_upto_region 3 with fail
   refine pS [.int .i32 (91 : Nat), _] ?_
   go_upto_region 4 with fail
   refine pR [_, _] ?_
   refine ieF .i32 (c : Nat) (91 : Nat) ?_
   refine wN ?_
   go_wp2
   go_roundw
   case rel => exact ⟨1, by omega, hit', hB⟩
   case measure => rw [Itr.pos (pos := 1) hit']; omega
  ·have hlt : 1 < (⟨#[91, 93]⟩ : ByteArray).size := by decide
   go_upto_region 2 with fail
   apply wR
   refine Wl.step (fun K hK => ?_)
   refine step_next rfl _ rfl ib ⟨#[91, 93]⟩ 1 (by kernel_rfl) hit hlt ?_
   intro w1 hit' hO
   have hS1 : Below 0 wr w1 := hO.below (Nat.zero_le _)
   have hB := hB.trans (hO.below (B := ib) (Nat.le_refl _))
   clear hit
   refine hK _ _ ?_
   clear hK K
   (try simp only [Act.put, zD, zE, zF])
   refine pQ [.bool true] ?_
   go_upto_region 3 with fail
   refine pS [.int .i32 (93 : Nat), _] ?_
   go_upto_region 4 with fail
   refine pR [_, _] ?_
   refine ieF .i32 (c : Nat) (93 : Nat) ?_
   refine wN ?_
   go_wp2
   go_roundw
   case rel => exact ⟨2, by omega, hit', hB⟩
   case measure => rw [Itr.pos (pos := 2) hit']; omega
  ·have hlt : ¬ 2 < (⟨#[91, 93]⟩ : ByteArray).size := by decide
   go_upto_region 2 with fail
   apply wR
   refine Wl.step (fun K hK => ?_)
   refine step_next_end rfl _ rfl ib ⟨#[91, 93]⟩ 2 (by kernel_rfl) hit hlt ?_
   rintro _ rfl
   have hS1 := hs0
   refine hK _ _ ?_
   clear hK K
   (try simp only [Act.put, zD, zE, zF])
   refine pQ [.bool false] ?_
   go_upto_region 6 with fail
   refine pS [_] ?_
   go_wp2
   go_ret
   rw [hib] at hB
   exact ⟨rfl, hB⟩
def NoBr (s : ByteArray) : Prop := 0 < s.size → noBr (gb s 0) ∧ noBr (gb s (s.size - 1))
theorem noBr_dr {s : ByteArray} (h : 0 < s.size) (hb : noBr (gb s 0)) : noBr (dr s 0) := by
 rcases dr_cases s 0 h with ⟨_, h2, _⟩ | ⟨_, h2, _⟩
 ·rw [h2]; exact hb
 ·exact ⟨by omega, by omega⟩
theorem ext_all (s : ByteArray) : s.extract 0 s.size = s := by
 apply ByteArray.ext
 simp
theorem zzTrimLeft_c (s : ByteArray) (hs : NoBr s) (hz : s.size ≤ 100000000) (w : World) : Calls Tryz.prog 328 #[.string s, .string ⟨#[91, 93]⟩] w fun e w' => e = .returned (.string s) ∧ Below w.heap.size w w' := by
 go_enter func328, ntmps328
 go_wp2
 have hit0 : Itr (w.iter s 0) w.heap.size s 0 := World.iter_heap w s 0
 have hW2 : Below w.heap.size w (w.iter s 0) := (Below.refl w.heap.size w).alloc (Nat.le_refl _) _
 obtain ⟨ib, hib⟩ : ∃ ib, ib = w.heap.size := ⟨_, rfl⟩
 obtain ⟨wi, hwi⟩ : ∃ wi, wi = w.iter s 0 := ⟨_, rfl⟩
 rw [← hib] at hit0 ⊢
 rw [← hwi] at hit0 hW2 ⊢
 rw [← hib] at hW2
 clear hwi
 go_loopw [] (fun wr => Itr wr ib s 0 ∧ Below ib w wr) (fun wr => 2 - wr.iterPos ib)
 case atStart => exact ⟨hit0, hW2⟩
 case round =>
  clear hit0 hW2
  obtain ⟨hit, hB⟩ := hrel
  have hs0 := Below.refl 0 wr
  by_cases hlt : 0 < s.size
  ·have hn := noBr_dr hlt (hs hlt).1
   have hc := fun w => zzInSet_no (dr s 0) hn w
   have HC := Lib.hid hc
   clear hc
   go_upto_region 2 with fail
   apply wR
   refine Wl.step (fun K hK => ?_)
   refine step_next rfl _ rfl ib s 0 (by kernel_rfl) hit hlt ?_
   intro w1 hit' hO
   have hS1 : Below 0 wr w1 := hO.below (Nat.zero_le _)
   have hB := hB.trans (hO.below (B := ib) (Nat.le_refl _))
   clear hit
   refine hK _ _ ?_
   clear hK K
   (try simp only [Act.put, zD, zE, zF])
   refine pQ [.bool true] ?_
   go_upto_region 3 with fail
   refine pS [.int .i64 (0 : Nat), .int .i32 (dr s 0 : Nat), _, _] ?_
   go_upto_region 4 with fail
   refine pR [_, _] ?_
   refine cC func332 #[.int .i32 ((dr s 0 : Nat) : Int), .string ⟨#[91, 93]⟩] (HC.out _) ?_
   rintro e w2 ⟨rfl, hb2⟩
   refine cR ?_
   obtain ⟨hS2, hz2, hy2⟩ := zC hS1 hb2
   refine pQ [.bool true] ?_
   go_upto_region 5 with fail
   refine pR [_, _] ?_
   refine cuL s 0 underlying9 ?_
   refine pQ [_] ?_
   go_wp2
   go_ret
   have hz1 := hB.size
   rw [hib] at hB
   exact ⟨by first | rfl | (rw [ext_all]; rfl), hB.trans (hb2.mono hB.size)⟩
  ·have h0 : s = ⟨#[]⟩ := by
    apply ByteArray.ext
    apply Array.eq_empty_of_size_eq_zero
    have : s.data.size = s.size := rfl
    omega
   go_upto_region 2 with fail
   apply wR
   refine Wl.step (fun K hK => ?_)
   refine step_next_end rfl _ rfl ib s 0 (by kernel_rfl) hit hlt ?_
   rintro _ rfl
   have hS1 := hs0
   refine hK _ _ ?_
   clear hK K
   (try simp only [Act.put, zD, zE, zF])
   refine pQ [.bool false] ?_
   go_upto_region 6 with fail
   refine pS [_] ?_
   go_wp2
   go_ret
   rw [hib] at hB
   exact ⟨by rw [h0]; rfl, hB⟩
theorem zzTrimRight_c (s : ByteArray) (hs : NoBr s) (hz : s.size ≤ 100000000) (w : World) : Calls Tryz.prog 327 #[.string s, .string ⟨#[91, 93]⟩] w fun e w' => e = .returned (.string s) ∧ Below w.heap.size w w' := by
 have hs0 := Below.refl w.heap.size w
 by_cases hlt : 0 < s.size
 ·obtain ⟨hn1, hn2⟩ := (hs hlt).2
  go_enter func327, ntmps327
  go_wp2
  go_loopw [5] (fun v5 wr => v5 = .int .i64 ((s.size : Nat) : Int) ∧ Below w.heap.size w wr) (fun _ _ => 0)
  case atStart => exact ⟨rfl, hs0⟩
  case round =>
   obtain ⟨rfl, hB⟩ := hrel
   go_upto_region 2 with fail
   refine pR [_] ?_
   refine igT .i64 (s.size : Nat) 0 ?_
   refine wN ?_
   go_upto_region 3 with fail
   refine pS [_] ?_
   go_upto_region 4 with fail
   refine pS [_] ?_
   go_wp2_with fail
   go_loopw [6, 7] (fun v6 v7 wx => ∃ k : Nat, k ≤ 2 ∧ v6 = .bool false ∧ v7 = .int .i64 ((k : Nat) : Int) ∧ Below w.heap.size w wx) (fun _ v7 _ => 2 - (intOf v7).toNat)
   case atStart => exact ⟨0, by omega, rfl, rfl, hB⟩
   case round =>
    obtain ⟨k, hk, rfl, rfl, hB⟩ := hrel
    rcases (show k = 0 ∨ k = 1 ∨ k = 2 by omega) with rfl | rfl | rfl
    ·skip
     go_upto_region 5 with fail
     refine pR [_, _, .int .i64 2] ?_
     refine ilT .i64 (0 : Nat) 2 ?_ (by decide)
     refine wN ?_
     go_upto_region 7 with fail
     refine wp_region_noPanic ?_
     have hSd7 := hB.drew
     have hzd7 := hSd7.size
     have hze7 : (wr).drew.heap.size = (wr).heap.size := rfl
     refine wp_region_held_drew (S := fun w' => Below (w.heap.size) w w') (by kernel_rfl) hSd7 (fun _ => ?_)
     refine tk 0 (.string ⟨#[91, 93]⟩) rfl yR hSd7 ?_
     refine tk 1 (.int .i64 (0 : Nat)) rfl yR hSd7 ?_
     refine tk 2 (.int .u8 (91 : Nat)) rfl yR hSd7 ?_
     refine tk 3 (.string s) rfl yR hSd7 ?_
     refine tk 4 (.int .i64 (s.size : Nat)) rfl yR hSd7 ?_
     refine tk 5 (.int .i64 ((s.size) - 1 : Nat)) rfl (yf_subN (by kernel_rfl) 3 3 _ _ rfl (s.size) 1 (by kernel_rfl) (by kernel_rfl) (by omega) (by omega)) hSd7 ?_
     refine tk 6 (.int .u8 (gb s (((s.size) - 1)) : Nat)) rfl (yf_byte (by kernel_rfl) 9 underlying9 _ _ rfl s ((s.size) - 1) (by kernel_rfl) (by kernel_rfl) (by omega)) hSd7 ?_
     refine tk 7 (.bool false) rfl (yf_eql_f (by kernel_rfl) 5 5 _ _ rfl .u8 (((91 : Nat) : Int)) (((gb s (((s.size) - 1)) : Nat) : Int)) (by kernel_rfl) (by kernel_rfl) (by omega)) hSd7 ?_
     refine wpAnyH_done (by kernel_rfl) ?_ _
     refine NoPanic.normal ?_
     go_upto_region 6 with fail
     refine pR [_] ?_
     refine iA 0 1 ?_
     refine pQ [_] ?_
     go_wp2
     go_roundw
     case rel => exact ⟨1, by omega, rfl, rfl, hSd7⟩
     case measure => simp [intOf]
    ·skip
     go_upto_region 5 with fail
     refine pR [_, _, .int .i64 2] ?_
     refine ilT .i64 (1 : Nat) 2 ?_ (by decide)
     refine wN ?_
     go_upto_region 7 with fail
     refine wp_region_noPanic ?_
     have hSd7 := hB.drew
     have hzd7 := hSd7.size
     have hze7 : (wr).drew.heap.size = (wr).heap.size := rfl
     refine wp_region_held_drew (S := fun w' => Below (w.heap.size) w w') (by kernel_rfl) hSd7 (fun _ => ?_)
     refine tk 0 (.string ⟨#[91, 93]⟩) rfl yR hSd7 ?_
     refine tk 1 (.int .i64 (1 : Nat)) rfl yR hSd7 ?_
     refine tk 2 (.int .u8 (93 : Nat)) rfl yR hSd7 ?_
     refine tk 3 (.string s) rfl yR hSd7 ?_
     refine tk 4 (.int .i64 (s.size : Nat)) rfl yR hSd7 ?_
     refine tk 5 (.int .i64 ((s.size) - 1 : Nat)) rfl (yf_subN (by kernel_rfl) 3 3 _ _ rfl (s.size) 1 (by kernel_rfl) (by kernel_rfl) (by omega) (by omega)) hSd7 ?_
     refine tk 6 (.int .u8 (gb s (((s.size) - 1)) : Nat)) rfl (yf_byte (by kernel_rfl) 9 underlying9 _ _ rfl s ((s.size) - 1) (by kernel_rfl) (by kernel_rfl) (by omega)) hSd7 ?_
     refine tk 7 (.bool false) rfl (yf_eql_f (by kernel_rfl) 5 5 _ _ rfl .u8 (((93 : Nat) : Int)) (((gb s (((s.size) - 1)) : Nat) : Int)) (by kernel_rfl) (by kernel_rfl) (by omega)) hSd7 ?_
     refine wpAnyH_done (by kernel_rfl) ?_ _
     refine NoPanic.normal ?_
     go_upto_region 6 with fail
     refine pR [_] ?_
     refine iA 1 1 ?_
     refine pQ [_] ?_
     go_wp2
     go_roundw
     case rel => exact ⟨2, by omega, rfl, rfl, hSd7⟩
     case measure => simp [intOf]
    ·skip
     go_upto_region 5 with fail
     refine pR [_, _, .int .i64 2] ?_
     refine ilF .i64 (2 : Nat) 2 ?_ (by decide)
     refine wN ?_
     go_upto_region 9 with fail
     refine pS [_, .bool true] ?_
     go_upto_region 11 with fail
     refine pR [_, _] ?_
     refine cuH s s.size underlying9 ?_
     refine pQ [_] ?_
     go_wp2
     go_ret
     exact ⟨by first | rfl | (rw [ext_all]; rfl), hB⟩
 ·have h0 : s = ⟨#[]⟩ := by
   apply ByteArray.ext
   apply Array.eq_empty_of_size_eq_zero
   have : s.data.size = s.size := rfl
   omega
  subst h0
  go_enter func327, ntmps327
  go_wp2
  go_loopw [5] (fun v5 wr => v5 = .int .i64 0 ∧ Below w.heap.size w wr) (fun _ _ => 0)
  case atStart => exact ⟨rfl, hs0⟩
  case round =>
   obtain ⟨rfl, hB⟩ := hrel
   go_wp2
   go_ret
   exact ⟨rfl, hB⟩
theorem uriNetIP_c (s : ByteArray) (hs : NoBr s) (hz : s.size ≤ 100000000) (w : World) : Calls Tryz.prog 317 #[.string s] w fun e w' => e = .returned (.string s) ∧ Below w.heap.size w w' := by
 have hs0 := Below.refl w.heap.size w
 have hT : ∀ w, Calls Tryz.prog 321 #[.string s, .string ⟨#[91, 93]⟩] w fun e w' => e = .returned (.string s) ∧ Below w.heap.size w w' := by
  intro w
  have hs0 := Below.refl w.heap.size w
  go_enter func321, ntmps321
  go_upto_region 0 with fail
  refine pS [_] ?_
  go_upto_region 1 with fail
  refine pR [_, _] ?_
  refine cC func328 #[.string s, .string ⟨#[91, 93]⟩] (zzTrimLeft_c s hs hz _) ?_
  rintro e w1 ⟨rfl, hb1⟩
  refine cR ?_
  obtain ⟨hS1, hz1, hy1⟩ := zC hs0 hb1
  refine pP [_] ?_
  refine cC func327 #[.string s, .string ⟨#[91, 93]⟩] (zzTrimRight_c s hs hz _) ?_
  rintro e w2 ⟨rfl, hb2⟩
  refine cR ?_
  obtain ⟨hS2, hz2, hy2⟩ := zC hS1 hb2
  refine pQ [_] ?_
  go_wp2
  go_ret
  exact ⟨rfl, hS2⟩
 go_enter func317, ntmps317
 go_upto_region 0 with fail
 refine pS [_] ?_
 go_upto_region 1 with fail
 refine pR [_] ?_
 refine cC func321 #[.string s, .string ⟨#[91, 93]⟩] (hT _) ?_
 rintro e w1 ⟨rfl, hb1⟩
 refine cR ?_
 obtain ⟨hS1, hz1, hy1⟩ := zC hs0 hb1
 refine pQ [_] ?_
 go_wp2
 go_ret
 exact ⟨rfl, hS1⟩
end Go.Proofs.YtfcllhdhfenmcaaGreatDoor
