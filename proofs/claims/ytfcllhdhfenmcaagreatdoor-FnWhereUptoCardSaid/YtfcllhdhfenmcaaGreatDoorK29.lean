/- Part 29 of the proof: laws and walks (merged by a program). -/
import Derived.Test.YtfcllhdhfenmcaaGreatDoorK01
import Derived.Test.YtfcllhdhfenmcaaGreatDoorK21
import Derived.Test.YtfcllhdhfenmcaaGreatDoorK22
import Derived.Test.YtfcllhdhfenmcaaGreatDoorK28
set_option linter.all false
set_option maxHeartbeats 8000000
set_option maxRecDepth 100000
namespace Go.Proofs.YtfcllhdhfenmcaaGreatDoor
open Go.RowKit Go.Proofs.Tryz
def rcvNm : ByteArray := ⟨#[114, 101, 99, 101, 105, 118, 101, 100]⟩
def rptNm : ByteArray := ⟨#[114, 112, 111, 114, 116]⟩
def hpHost (x : SH) : ByteArray := match getV x.ps rcvNm with | some v => if v = ⟨#[]⟩ then x.s4 else v | none => x.s4
def hpP0 (x : SH) (tp : ByteArray) : Int := if 0 < x.n then x.n else dport (lowS tp)
def hpPort (x : SH) (p0 : Int) : Int := match getV x.ps rptNm with | some v => if v = ⟨#[]⟩ then p0 else (match num? v with | some p => p | none => p0) | none => p0
structure ViaOK (x : SH) : Prop where
 ps : x.ps.length ≤ 4000000000000
 rp : ∀ v, getV x.ps rptNm = some v → v.size ≤ 100000000
theorem dport_bounds (l : ByteArray) : -9223372036854775808 ≤ dport l ∧ dport l ≤ 9223372036854775807 := by
 unfold dport
 repeat' split
 all_goals constructor <;> decide
theorem HPs.nil_of_none {w : World} {n c : Nat} {l : List PV} (h : HPs w (.slice none n c) l) : l = [] := by
 obtain ⟨A', c', e, h1, h2, h3⟩ := h
 injection e with e1 e2 e3
 rcases Nat.eq_zero_or_pos l.length with q | q
 ·exact List.eq_nil_of_length_eq_zero q
 ·obtain ⟨_, _, _, _, q2, _⟩ := h3 q
  rw [q2] at e1
  cases e1
theorem get_some {v : Value} {l : List PV} {nm x : ByteArray} {w : World} (h : HPs w v l) (hl : l.length ≤ 4000000000000) (hx : getV l nm = some x) : Calls Tryz.prog 208 #[v, .string nm] w fun e w' => e = .returned (.tuple #[.string x, .bool true]) ∧ Below w.heap.size w w' := by
 have := get_c v l nm w h hl
 rw [hx] at this
 exact this
theorem get_none {v : Value} {l : List PV} {nm : ByteArray} {w : World} (h : HPs w v l) (hl : l.length ≤ 4000000000000) (hx : getV l nm = none) : Calls Tryz.prog 208 #[v, .string nm] w fun e w' => e = .returned (.tuple #[.string ⟨#[]⟩, .bool false]) ∧ Below w.heap.size w w' := by
 have := get_c v l nm w h hl
 rw [hx] at this
 exact this
theorem hpPort_0 {x : SH} {p : Int} (h : getV x.ps rptNm = none) : hpPort x p = p := by unfold hpPort; rw [h]
theorem hpPort_1 {x : SH} {p : Int} {v : ByteArray} (h : getV x.ps rptNm = some v) (h1 : v = ⟨#[]⟩) : hpPort x p = p := by unfold hpPort; rw [h]; simp only []; rw [if_pos h1]
theorem hpPort_2 {x : SH} {p n : Int} {v : ByteArray} (h : getV x.ps rptNm = some v) (h1 : v ≠ ⟨#[]⟩) (h2 : num? v = some n) : hpPort x p = n := by unfold hpPort; rw [h]; simp only []; rw [if_neg h1, h2]
theorem hpPort_3 {x : SH} {p : Int} {v : ByteArray} (h : getV x.ps rptNm = some v) (h1 : v ≠ ⟨#[]⟩) (h2 : num? v = none) : hpPort x p = p := by unfold hpPort; rw [h]; simp only []; rw [if_neg h1, h2]
theorem hpHost_0 {x : SH} (h : getV x.ps rcvNm = none) : hpHost x = x.s4 := by unfold hpHost; rw [h]
theorem hpHost_1 {x : SH} {v : ByteArray} (h : getV x.ps rcvNm = some v) (h1 : v = ⟨#[]⟩) : hpHost x = x.s4 := by unfold hpHost; rw [h]; simp only []; rw [if_pos h1]
theorem hpHost_2 {x : SH} {v : ByteArray} (h : getV x.ps rcvNm = some v) (h1 : v ≠ ⟨#[]⟩) : hpHost x = v := by unfold hpHost; rw [h]; simp only []; rw [if_neg h1]
theorem reqHP_none (base : Nat) (w : World) (b : Nat) (vals : List Value) (L : List SH) (cp : Bool) (ver bd : Value) (meth : Value) (u : SU) (v8 v9 : Value) (h : RqB base w b vals L cp ver bd meth u v8 v9) (hn : NoStray L) (hv : viaS L = none) :
 Calls Tryz.prog 316 #[.pointer (some ⟨b, 0, none⟩)] w fun e w' => e = .returned (.tuple #[.string ⟨#[]⟩, .int .i64 0]) ∧ Below w.heap.size w w' := by
 have HN := Lib.hid hn
 have hs0 := Below.refl w.heap.size w
 clear hn
 go_enter func316, ntmps316
 go_upto_region 0 with fail
 refine pS [_, _] ?_
 go_upto_region 1 with fail
 refine pR [_, .pointer (some ⟨b, 0, none⟩), .pointer (some ⟨b, 0, none⟩), .pointer (some ⟨b, 0, none⟩)] ?_
 refine cD func205 (viaNo h.hs HN.out hv) ?_
 rintro e w1 ⟨rfl, hb1⟩
 refine cR ?_
 obtain ⟨hS1, hz1, hy1⟩ := zC hs0 hb1
 replace h := h.grow hb1
 refine pQ [_] ?_
 go_upto_region 2 with fail
 refine pS [_, .bool true] ?_
 go_upto_region 3 with fail
 refine pS [_, _] ?_
 go_wp2
 go_ret2
 exact ⟨rfl, hS1⟩
theorem reqHP_some (w0 : World) (hE : Env w0) (base : Nat) (w : World) (hw : Below w0.heap.size w0 w) (b : Nat) (vals : List Value) (L : List SH) (cp : Bool) (ver bd : Value) (meth : Value) (u : SU) (v8 v9 : Value) (h : RqB base w b vals L cp ver bd meth u v8 v9) (hn : NoStray L) (hR : TrOK (match routeS L with | some r => r.u | none => u)) (x : SH) (hv : viaS L = some x) (hok : ViaOK x) (htz : ((trReq L u)).size ≤ 100000000) :
 Calls Tryz.prog 316 #[.pointer (some ⟨b, 0, none⟩)] w fun e w' => e = .returned (.tuple #[.string (hpHost x), .int .i64 (hpPort x (hpP0 x (trReq L u)))]) ∧ Below w.heap.size w w' := by
 have HN := Lib.hid hn
 have HR := Lib.hid hR
 clear hR
 have HOK := Lib.hid hok
 have HTZ := Lib.hid htz
 have HE := Lib.hid hE
 have HW := Lib.hid hw
 have hwz := hw.size
 have hs0 := Below.refl w.heap.size w
 clear hn hok htz hE hw
 obtain ⟨bx, v5, hvx, hV⟩ := viaGet h.hs hv
 obtain ⟨A5, c5, hv5⟩ := hvx.ps.shape
 subst hv5
 obtain ⟨n5, hn5⟩ : ∃ n, n = x.ps.length := ⟨_, rfl⟩
 obtain ⟨p0, hp0⟩ : ∃ p, p = hpP0 x (trReq L u) := ⟨_, rfl⟩
 obtain ⟨hst, hhst⟩ : ∃ s, s = hpHost x := ⟨_, rfl⟩
 obtain ⟨prt, hprt⟩ : ∃ p, p = hpPort x p0 := ⟨_, rfl⟩
 have hpb : -9223372036854775808 ≤ p0 ∧ p0 ≤ 9223372036854775807 := by
  rw [hp0]; unfold hpP0
  split
  ·exact ⟨hvx.lo, hvx.hi⟩
  ·exact dport_bounds _
 have HP0 := Lib.hid hp0
 have HHST := Lib.hid hhst
 have HPRT := Lib.hid hprt
 rw [← hn5] at hvx
 have HRES : Hid ((.tuple #[.string (hpHost x), .int .i64 (hpPort x (hpP0 x (trReq L u)))] : Value) = .tuple #[.string hst, .int .i64 prt]) := by unfold Hid; rw [hprt, hp0, hhst]
 clear hp0 hhst hprt
 rw [HRES.out]
 go_enter func316, ntmps316
 have hxb := hvx.blk
 go_upto_region 0 with fail
 refine pS [_, _] ?_
 go_upto_region 1 with fail
 refine pR [_, .pointer (some ⟨b, 0, none⟩), .pointer (some ⟨b, 0, none⟩), .pointer (some ⟨b, 0, none⟩)] ?_
 refine cC func205 #[.pointer (some ⟨b, 0, none⟩)] (hV _ h.hs) ?_
 rintro e _ ⟨rfl, rfl⟩
 refine cR ?_
 refine pQ [_] ?_
 go_upto_region 2 with fail
 refine pS [_, .bool false] ?_
 go_upto_region 4 with fail
 refine pS [_] ?_
 go_upto_region 5 with fail
 refine pS [_] ?_
 go_upto_region 6 with fail
 refine pR [_, .pointer (some ⟨bx, 0, none⟩), .pointer (some ⟨bx, 3, none⟩)] ?_
 refine Wl.ld (hxb.cell 3 (.string x.s4) (by kernel_rfl)) underlying9 ?_
 refine pQ [_] ?_
 have hvx1 : ViaB w bx x (.slice A5 n5 c5) := ⟨hxb, hvx.ps, hvx.lo, hvx.hi⟩
 clear hvx hxb
 go_step
 go_step
 go_step
 go_cut [6] from 24 (fun v6 wx => v6 = .int .i64 p0 ∧ Below w.heap.size w wx ∧ ViaB wx bx x (.slice A5 n5 c5) ∧ RqB base wx b vals L cp ver bd meth u v8 v9)
 case first =>
  have hxb := hvx1.blk
  by_cases hpos : 0 < x.n
  ·have hp : p0 = x.n := by rw [HP0.out]; unfold hpP0; rw [if_pos hpos]
   go_upto_region 7 with fail
   refine pR [_, .pointer (some ⟨bx, 0, none⟩), .pointer (some ⟨bx, 4, none⟩)] ?_
   refine Wl.ld (hxb.cell 4 (.int .i64 x.n) (by kernel_rfl)) underlying3 ?_
   refine igT .i64 x.n 0 ?_
   refine wN ?_
   go_upto_region 8 with fail
   refine pR [_, .pointer (some ⟨bx, 0, none⟩), .pointer (some ⟨bx, 4, none⟩)] ?_
   refine Wl.ld (hxb.cell 4 (.int .i64 x.n) (by kernel_rfl)) underlying3 ?_
   refine pQ [_] ?_
   go_wp2_with fail
   go_meet
   case rel => exact ⟨by rw [hp], hs0, ⟨hxb, hvx1.ps, hvx1.lo, hvx1.hi⟩, h⟩
  ·have hp : p0 = dport (lowS (trReq L u)) := by rw [HP0.out]; unfold hpP0; rw [if_neg hpos]
   have hps := hvx1.ps
   go_upto_region 7 with fail
   refine pR [_, .pointer (some ⟨bx, 0, none⟩), .pointer (some ⟨bx, 4, none⟩)] ?_
   refine Wl.ld (hxb.cell 4 (.int .i64 x.n) (by kernel_rfl)) underlying3 ?_
   refine igF .i64 x.n 0 ?_
   refine wN ?_
   go_upto_region 9 with fail
   refine pR [_] ?_
   refine cC func308 #[.pointer (some ⟨b, 0, none⟩)] (reqTransport_c base _ b vals L cp ver bd meth u v8 v9 h HN.out HR.out) ?_
   rintro e w21 ⟨rfl, hb21⟩
   refine cR ?_
   obtain ⟨hS21, hz21, hy21⟩ := zC hs0 hb21
   replace h := h.grow hb21
   replace hps := hps.grow hb21
   replace hxb := hxb.grow hb21
   refine cC func58 #[.string (trReq L u)] (defaultPort_c _ _ HTZ.out) ?_
   rintro e w22 ⟨rfl, hb22⟩
   refine cR ?_
   obtain ⟨hS22, hz22, hy22⟩ := zC hS21 hb22
   replace h := h.grow hb22
   replace hps := hps.grow hb22
   replace hxb := hxb.grow hb22
   refine pQ [_] ?_
   go_wp2_with fail
   go_meet
   case rel => exact ⟨by first | (rw [hp]; done) | (rw [hp, hv]), hS22, ⟨hxb, hps, hvx1.lo, hvx1.hi⟩, h⟩
 case rest =>
  clear hvx1
  obtain ⟨rfl, hS2, hvx, h⟩ := hcut
  have hxb := hvx.blk
  have hps := hvx.ps
  have hw2 : Below w0.heap.size w0 wc := HW.out.trans (hS2.mono hwz)
  have HW2 := Lib.hid hw2
  clear hw2
  obtain ⟨wa, rfl⟩ : ∃ W, W = wc := ⟨_, rfl⟩
  have hs3 := Below.refl wa.heap.size wa
  go_step
  go_step
  go_cut [5, 6, 7, 8, 9, 10, 11, 12] from 36 (fun v5 v6 _ _ _ _ _ _ wx => v5 = .string hst ∧ v6 = .int .i64 prt ∧ Below wa.heap.size wa wx)
  case first =>
   cases A5 with
   | none =>
     have hnil := hps.nil_of_none
     have hh : hst = x.s4 := by rw [HHST.out]; exact hpHost_0 (by rw [hnil]; rfl)
     have hpp : prt = p0 := by rw [HPRT.out]; exact hpPort_0 (by rw [hnil]; rfl)
     go_upto_region 10 with fail
     refine pR [_, .pointer (some ⟨bx, 0, none⟩), .pointer (some ⟨bx, 5, none⟩)] ?_
     refine Wl.ld (hxb.cell 5 (.slice none n5 c5) (by kernel_rfl)) underlying72 ?_
     refine pQ [.bool false] ?_
     go_wp2_with fail
     go_meet
     case rel => exact ⟨by rw [hh], by rw [hpp], hs3⟩
   | some ad =>
     have hlen := HOK.out.ps
     go_upto_region 10 with fail
     refine pR [_, .pointer (some ⟨bx, 0, none⟩), .pointer (some ⟨bx, 5, none⟩)] ?_
     refine Wl.ld (hxb.cell 5 (.slice (some ad) n5 c5) (by kernel_rfl)) underlying72 ?_
     refine pQ [.bool true] ?_
     go_step
     go_step
     go_step
     go_step
     go_cut [5, 7, 8] from 41 (fun v5 _ _ wx => v5 = .string hst ∧ Below wa.heap.size wa wx)
     case first =>
      cases hg : getV x.ps rcvNm with
      | none =>
        have hh : hst = x.s4 := by rw [HHST.out]; exact hpHost_0 hg
        have HG := Lib.hid (get_none hps hlen hg)
        go_upto_region 11 with fail
        refine pR [_, .pointer (some ⟨bx, 0, none⟩), .pointer (some ⟨bx, 5, none⟩)] ?_
        refine Wl.ld (hxb.cell 5 (.slice (some ad) n5 c5) (by kernel_rfl)) underlying72 ?_
        refine cD func208 HG.out ?_
        rintro e w41 ⟨rfl, hb41⟩
        refine cR ?_
        obtain ⟨hS41, hz41, hy41⟩ := zC hs3 hb41
        replace hxb := hxb.grow hb41
        refine pQ [_, .string ⟨#[]⟩, .bool false, _, _] ?_
        go_upto_region 12 with fail
        refine pR [_, _] ?_
        refine Wl.u ?_
        refine Wl.u ?_
        refine pQ [.bool false] ?_
        go_wp2_with fail
        go_meet
        case rel => exact ⟨by rw [hh], hS41⟩
      | some v =>
        have HG := Lib.hid (get_some hps hlen hg)
        by_cases hv0 : v = ⟨#[]⟩
        ·have hh : hst = x.s4 := by rw [HHST.out]; exact hpHost_1 hg hv0
         go_upto_region 11 with fail
         refine pR [_, .pointer (some ⟨bx, 0, none⟩), .pointer (some ⟨bx, 5, none⟩)] ?_
         refine Wl.ld (hxb.cell 5 (.slice (some ad) n5 c5) (by kernel_rfl)) underlying72 ?_
         refine cD func208 HG.out ?_
         rintro e w41 ⟨rfl, hb41⟩
         refine cR ?_
         obtain ⟨hS41, hz41, hy41⟩ := zC hs3 hb41
         replace hxb := hxb.grow hb41
         refine pQ [_, .string v, .bool true, _, _] ?_
         go_upto_region 12 with fail
         refine pR [_, _, _] ?_
         refine itF v ⟨#[]⟩ hv0 ?_
         refine pQ [.bool false] ?_
         go_wp2_with fail
         go_meet
         case rel => exact ⟨by rw [hh], hS41⟩
        ·have hh : hst = v := by rw [HHST.out]; exact hpHost_2 hg hv0
         go_upto_region 11 with fail
         refine pR [_, .pointer (some ⟨bx, 0, none⟩), .pointer (some ⟨bx, 5, none⟩)] ?_
         refine Wl.ld (hxb.cell 5 (.slice (some ad) n5 c5) (by kernel_rfl)) underlying72 ?_
         refine cD func208 HG.out ?_
         rintro e w41 ⟨rfl, hb41⟩
         refine cR ?_
         obtain ⟨hS41, hz41, hy41⟩ := zC hs3 hb41
         replace hxb := hxb.grow hb41
         refine pQ [_, .string v, .bool true, _, _] ?_
         go_upto_region 12 with fail
         refine pR [_, _, _] ?_
         refine itT v ⟨#[]⟩ hv0 ?_
         refine pQ [.bool true] ?_
         go_upto_region 13 with fail
         refine pS [_, _] ?_
         go_wp2_with fail
         go_meet
         case rel => exact ⟨by rw [hh], hS41⟩
     case rest =>
      obtain ⟨rfl, hs4⟩ := hcut
      have hxb := hxb.grow hs4
      have hps := hps.grow hs4
      have hz4 := hs4.size
      have hs5 := HW2.out.trans (hs4.mono (by have := HW2.out.size; omega))
      cases hg : getV x.ps rptNm with
      | none =>
        have hpp : prt = p0 := by rw [HPRT.out]; exact hpPort_0 hg
        have HG := Lib.hid (get_none hps hlen hg)
        go_upto_region 14 with fail
        refine pR [_, .pointer (some ⟨bx, 0, none⟩), .pointer (some ⟨bx, 5, none⟩)] ?_
        refine Wl.ld (hxb.cell 5 (.slice (some ad) n5 c5) (by kernel_rfl)) underlying72 ?_
        refine cD func208 HG.out ?_
        rintro e w51 ⟨rfl, hb51⟩
        refine cR ?_
        obtain ⟨hS51, hz51, hy51⟩ := zC hs5 hb51
        replace hxb := hxb.grow hb51
        refine pQ [_, .string ⟨#[]⟩, .bool false, _, _] ?_
        go_upto_region 15 with fail
        refine pR [_, _] ?_
        refine Wl.u ?_
        refine Wl.u ?_
        refine pQ [.bool false] ?_
        go_wp2_with fail
        go_meet
        case rel => exact ⟨rfl, by rw [hpp], hs4.trans (hb51.mono hz4)⟩
      | some v =>
        have HG := Lib.hid (get_some hps hlen hg)
        by_cases hv0 : v = ⟨#[]⟩
        ·have hpp : prt = p0 := by rw [HPRT.out]; exact hpPort_1 hg hv0
         go_upto_region 14 with fail
         refine pR [_, .pointer (some ⟨bx, 0, none⟩), .pointer (some ⟨bx, 5, none⟩)] ?_
         refine Wl.ld (hxb.cell 5 (.slice (some ad) n5 c5) (by kernel_rfl)) underlying72 ?_
         refine cD func208 HG.out ?_
         rintro e w51 ⟨rfl, hb51⟩
         refine cR ?_
         obtain ⟨hS51, hz51, hy51⟩ := zC hs5 hb51
         replace hxb := hxb.grow hb51
         refine pQ [_, .string v, .bool true, _, _] ?_
         go_upto_region 15 with fail
         refine pR [_, _, _] ?_
         refine itF v ⟨#[]⟩ hv0 ?_
         refine pQ [.bool false] ?_
         go_wp2_with fail
         go_meet
         case rel => exact ⟨rfl, by rw [hpp], hs4.trans (hb51.mono hz4)⟩
        ·cases hn : num? v with
         | some n =>
           have hpp : prt = n := by rw [HPRT.out]; exact hpPort_2 hg hv0 hn
           go_upto_region 14 with fail
           refine pR [_, .pointer (some ⟨bx, 0, none⟩), .pointer (some ⟨bx, 5, none⟩)] ?_
           refine Wl.ld (hxb.cell 5 (.slice (some ad) n5 c5) (by kernel_rfl)) underlying72 ?_
           refine cD func208 HG.out ?_
           rintro e w51 ⟨rfl, hb51⟩
           refine cR ?_
           obtain ⟨hS51, hz51, hy51⟩ := zC hs5 hb51
           replace hxb := hxb.grow hb51
           refine pQ [_, .string v, .bool true, _, _] ?_
           go_upto_region 15 with fail
           refine pR [_, _, _] ?_
           refine itT v ⟨#[]⟩ hv0 ?_
           refine pQ [.bool true] ?_
           go_upto_region 16 with fail
           refine pR [_] ?_
           refine cC func113 #[.string v] (HE.out.num hn _ hS51 (HOK.out.rp v hg)) ?_
           rintro e w52 ⟨rfl, _, hb52⟩
           refine cR ?_
           obtain ⟨hS52, hz52, hy52⟩ := zC hS51 hb52
           replace hxb := hxb.grow hb52
           refine pQ [_, .int .i64 n, .nilIface, _, _] ?_
           go_upto_region 17 with fail
           refine pS [_, .bool true] ?_
           go_upto_region 18 with fail
           refine pS [_, _] ?_
           go_wp2_with fail
           go_meet
           case rel => exact ⟨rfl, by rw [hpp], (hs4.trans (hb51.mono hz4)).trans (hb52.mono (by have := hb51.size; omega))⟩
         | none =>
           have hpp : prt = p0 := by rw [HPRT.out]; exact hpPort_3 hg hv0 hn
           go_upto_region 14 with fail
           refine pR [_, .pointer (some ⟨bx, 0, none⟩), .pointer (some ⟨bx, 5, none⟩)] ?_
           refine Wl.ld (hxb.cell 5 (.slice (some ad) n5 c5) (by kernel_rfl)) underlying72 ?_
           refine cD func208 HG.out ?_
           rintro e w51 ⟨rfl, hb51⟩
           refine cR ?_
           obtain ⟨hS51, hz51, hy51⟩ := zC hs5 hb51
           replace hxb := hxb.grow hb51
           refine pQ [_, .string v, .bool true, _, _] ?_
           go_upto_region 15 with fail
           refine pR [_, _, _] ?_
           refine itT v ⟨#[]⟩ hv0 ?_
           refine pQ [.bool true] ?_
           go_upto_region 16 with fail
           refine pR [_] ?_
           refine cC func113 #[.string v] (HE.out.numErr hn _ hS51 (HOK.out.rp v hg)) ?_
           rintro e w52 ⟨n, te, pe, rfl, _, hb52⟩
           refine cR ?_
           obtain ⟨hS52, hz52, hy52⟩ := zC hS51 hb52
           replace hxb := hxb.grow hb52
           refine pQ [_, .int .i64 n, .iface te pe, _, _] ?_
           go_upto_region 17 with fail
           refine pS [_, .bool false] ?_
           go_wp2_with fail
           go_meet
           case rel => exact ⟨rfl, by rw [hpp], (hs4.trans (hb51.mono hz4)).trans (hb52.mono (by have := hb51.size; omega))⟩
  case rest =>
   obtain ⟨rfl, rfl, hs4⟩ := hcut
   have hz2 := hS2.size
   have hfin := hS2.trans (hs4.mono hz2)
   go_upto_region 19 with fail
   refine pS [_, _, _, _] ?_
   go_wp2
   go_ret2
   exact ⟨rfl, hfin⟩
theorem resDest_none (base : Nat) (w : World) (b : Nat) (vals : List Value) (L : List SH) (cp : Bool) (ver bd : Value) (reason code : Value) (h : RsB base w b vals L cp ver bd reason code) (hn : NoStray L) (hv : viaS L = none) :
 Calls Tryz.prog 183 #[.pointer (some ⟨b, 0, none⟩)] w fun e w' => e = .returned (.string ⟨#[]⟩) ∧ Below w.heap.size w w' := by
 obtain ⟨P, hvb⟩ := h.hs.vb
 have hM := mdDestination_c b ⟨#[]⟩ w (hvb.cell 4 _ rfl)
 clear hvb P
 have HN := Lib.hid hn
 have hs0 := Below.refl w.heap.size w
 clear hn
 go_enter func183, ntmps183
 go_upto_region 0 with fail
 refine pS [_] ?_
 go_upto_region 1 with fail
 refine pR [_, .pointer (some ⟨b, 0, none⟩), .pointer (some ⟨b, 0, none⟩)] ?_
 refine cD func207 hM ?_
 rintro e w1 ⟨rfl, hb1⟩
 refine cR ?_
 obtain ⟨hS1, hz1, hy1⟩ := zC hs0 hb1
 replace h := h.grow hb1
 refine pQ [_] ?_
 go_upto_region 2 with fail
 refine pS [_, .bool false] ?_
 go_upto_region 4 with fail
 refine pR [_, .pointer (some ⟨b, 0, none⟩), .pointer (some ⟨b, 0, none⟩), .pointer (some ⟨b, 0, none⟩)] ?_
 refine cD func205 (viaNo h.hs HN.out hv) ?_
 rintro e w2 ⟨rfl, hb2⟩
 refine cR ?_
 obtain ⟨hS2, hz2, hy2⟩ := zC hS1 hb2
 replace h := h.grow hb2
 refine pQ [_] ?_
 go_upto_region 5 with fail
 refine pS [_, .bool true] ?_
 go_upto_region 6 with fail
 refine pS [_] ?_
 go_wp2
 go_ret
 exact ⟨rfl, hS2⟩
theorem resDest_some (w0 : World) (hE : Env w0) (base : Nat) (w : World) (hw : Below w0.heap.size w0 w) (b : Nat) (vals : List Value) (L : List SH) (cp : Bool) (ver bd : Value) (reason code : Value) (h : RsB base w b vals L cp ver bd reason code) (hn : NoStray L) (x : SH) (hv : viaS L = some x) (hok : ViaOK x) (htz : ((trVia (viaS L))).size ≤ 100000000) (hhz : (hpHost x).size ≤ 100000000) :
 Calls Tryz.prog 183 #[.pointer (some ⟨b, 0, none⟩)] w fun e w' => e = .returned (.string ((hpHost x ++ (⟨#[58]⟩ : ByteArray)) ++ itoaS (hpPort x (hpP0 x (trVia (viaS L)))))) ∧ Below w.heap.size w w' := by
 obtain ⟨P, hvb⟩ := h.hs.vb
 have hM := mdDestination_c b ⟨#[]⟩ w (hvb.cell 4 _ rfl)
 clear hvb P
 have HN := Lib.hid hn
 have HHZ := Lib.hid hhz
 have HOK := Lib.hid hok
 clear hhz
 have HTZ := Lib.hid htz
 have HE := Lib.hid hE
 have HW := Lib.hid hw
 have hwz := hw.size
 have hs0 := Below.refl w.heap.size w
 clear hn hok htz hE hw
 obtain ⟨bx, v5, hvx, hV⟩ := viaGet h.hs hv
 obtain ⟨A5, c5, hv5⟩ := hvx.ps.shape
 subst hv5
 obtain ⟨n5, hn5⟩ : ∃ n, n = x.ps.length := ⟨_, rfl⟩
 obtain ⟨p0, hp0⟩ : ∃ p, p = hpP0 x (trVia (viaS L)) := ⟨_, rfl⟩
 obtain ⟨hst, hhst⟩ : ∃ s, s = hpHost x := ⟨_, rfl⟩
 obtain ⟨prt, hprt⟩ : ∃ p, p = hpPort x p0 := ⟨_, rfl⟩
 have hpb : -9223372036854775808 ≤ p0 ∧ p0 ≤ 9223372036854775807 := by
  rw [hp0]; unfold hpP0
  split
  ·exact ⟨hvx.lo, hvx.hi⟩
  ·exact dport_bounds _
 have HP0 := Lib.hid hp0
 have HHST := Lib.hid hhst
 have HPRT := Lib.hid hprt
 rw [← hn5] at hvx
 have HRES : Hid ((.string ((hpHost x ++ (⟨#[58]⟩ : ByteArray)) ++ itoaS (hpPort x (hpP0 x (trVia (viaS L))))) : Value) = .string ((hst ++ (⟨#[58]⟩ : ByteArray)) ++ itoaS prt)) := by unfold Hid; rw [hprt, hp0, hhst]
 clear hp0 hhst hprt
 rw [HRES.out]
 go_enter func183, ntmps183
 have hxb := hvx.blk
 go_upto_region 0 with fail
 refine pS [_] ?_
 go_upto_region 1 with fail
 refine pR [_, .pointer (some ⟨b, 0, none⟩), .pointer (some ⟨b, 0, none⟩)] ?_
 refine cD func207 hM ?_
 rintro e w11 ⟨rfl, hb11⟩
 refine cR ?_
 obtain ⟨hS11, hz11, hy11⟩ := zC hs0 hb11
 replace h := h.grow hb11
 replace hxb := hxb.grow hb11
 refine pQ [_] ?_
 go_upto_region 2 with fail
 refine pS [_, .bool false] ?_
 go_upto_region 4 with fail
 refine pR [_, .pointer (some ⟨b, 0, none⟩), .pointer (some ⟨b, 0, none⟩), .pointer (some ⟨b, 0, none⟩)] ?_
 refine cC func205 #[.pointer (some ⟨b, 0, none⟩)] (hV _ h.hs) ?_
 rintro e _ ⟨rfl, rfl⟩
 refine cR ?_
 refine pQ [_] ?_
 go_upto_region 5 with fail
 refine pS [_, .bool false] ?_
 go_upto_region 7 with fail
 refine pS [_] ?_
 go_upto_region 8 with fail
 refine pS [_] ?_
 go_upto_region 9 with fail
 refine pR [_, .pointer (some ⟨bx, 0, none⟩), .pointer (some ⟨bx, 3, none⟩)] ?_
 refine Wl.ld (hxb.cell 3 (.string x.s4) (by kernel_rfl)) underlying9 ?_
 refine pQ [_] ?_
 have hvx1 : ViaB w11 bx x (.slice A5 n5 c5) := ⟨hxb, hvx.ps.grow hb11, hvx.lo, hvx.hi⟩
 clear hvx hxb
 go_step
 go_step
 go_step
 go_cut [6] from 31 (fun v6 wx => v6 = .int .i64 p0 ∧ Below w.heap.size w wx ∧ ViaB wx bx x (.slice A5 n5 c5) ∧ RsB base wx b vals L cp ver bd reason code)
 case first =>
  have hxb := hvx1.blk
  by_cases hpos : 0 < x.n
  ·have hp : p0 = x.n := by rw [HP0.out]; unfold hpP0; rw [if_pos hpos]
   go_upto_region 10 with fail
   refine pR [_, .pointer (some ⟨bx, 0, none⟩), .pointer (some ⟨bx, 4, none⟩)] ?_
   refine Wl.ld (hxb.cell 4 (.int .i64 x.n) (by kernel_rfl)) underlying3 ?_
   refine igT .i64 x.n 0 ?_
   refine wN ?_
   go_upto_region 11 with fail
   refine pR [_, .pointer (some ⟨bx, 0, none⟩), .pointer (some ⟨bx, 4, none⟩)] ?_
   refine Wl.ld (hxb.cell 4 (.int .i64 x.n) (by kernel_rfl)) underlying3 ?_
   refine pQ [_] ?_
   go_wp2_with fail
   go_meet
   case rel => exact ⟨by rw [hp], hS11, ⟨hxb, hvx1.ps, hvx1.lo, hvx1.hi⟩, h⟩
  ·have hp : p0 = dport (lowS (trVia (viaS L))) := by rw [HP0.out]; unfold hpP0; rw [if_neg hpos]
   have hps := hvx1.ps
   go_upto_region 10 with fail
   refine pR [_, .pointer (some ⟨bx, 0, none⟩), .pointer (some ⟨bx, 4, none⟩)] ?_
   refine Wl.ld (hxb.cell 4 (.int .i64 x.n) (by kernel_rfl)) underlying3 ?_
   refine igF .i64 x.n 0 ?_
   refine wN ?_
   go_upto_region 12 with fail
   refine pR [_] ?_
   refine cC func204 #[.pointer (some ⟨b, 0, none⟩)] (resTransport_c base _ b vals L cp ver bd reason code h HN.out) ?_
   rintro e w21 ⟨rfl, hb21⟩
   refine cR ?_
   obtain ⟨hS21, hz21, hy21⟩ := zC hS11 hb21
   replace h := h.grow hb21
   replace hps := hps.grow hb21
   replace hxb := hxb.grow hb21
   refine cC func58 #[.string (trVia (viaS L))] (defaultPort_c _ _ HTZ.out) ?_
   rintro e w22 ⟨rfl, hb22⟩
   refine cR ?_
   obtain ⟨hS22, hz22, hy22⟩ := zC hS21 hb22
   replace h := h.grow hb22
   replace hps := hps.grow hb22
   replace hxb := hxb.grow hb22
   refine pQ [_] ?_
   go_wp2_with fail
   go_meet
   case rel => exact ⟨by first | (rw [hp]; done) | (rw [hp, hv]), hS22, ⟨hxb, hps, hvx1.lo, hvx1.hi⟩, h⟩
 case rest =>
  clear hvx1
  obtain ⟨rfl, hS2, hvx, h⟩ := hcut
  have hxb := hvx.blk
  have hps := hvx.ps
  have hw2 : Below w0.heap.size w0 wc := HW.out.trans (hS2.mono hwz)
  have HW2 := Lib.hid hw2
  clear hw2
  obtain ⟨wa, rfl⟩ : ∃ W, W = wc := ⟨_, rfl⟩
  have hs3 := Below.refl wa.heap.size wa
  go_step
  go_step
  go_cut [5, 6, 7, 8, 9, 10, 11, 12] from 43 (fun v5 v6 _ _ _ _ _ _ wx => v5 = .string hst ∧ v6 = .int .i64 prt ∧ Below wa.heap.size wa wx)
  case first =>
   cases A5 with
   | none =>
     have hnil := hps.nil_of_none
     have hh : hst = x.s4 := by rw [HHST.out]; exact hpHost_0 (by rw [hnil]; rfl)
     have hpp : prt = p0 := by rw [HPRT.out]; exact hpPort_0 (by rw [hnil]; rfl)
     go_upto_region 13 with fail
     refine pR [_, .pointer (some ⟨bx, 0, none⟩), .pointer (some ⟨bx, 5, none⟩)] ?_
     refine Wl.ld (hxb.cell 5 (.slice none n5 c5) (by kernel_rfl)) underlying72 ?_
     refine pQ [.bool false] ?_
     go_wp2_with fail
     go_meet
     case rel => exact ⟨by rw [hh], by rw [hpp], hs3⟩
   | some ad =>
     have hlen := HOK.out.ps
     go_upto_region 13 with fail
     refine pR [_, .pointer (some ⟨bx, 0, none⟩), .pointer (some ⟨bx, 5, none⟩)] ?_
     refine Wl.ld (hxb.cell 5 (.slice (some ad) n5 c5) (by kernel_rfl)) underlying72 ?_
     refine pQ [.bool true] ?_
     go_step
     go_step
     go_step
     go_step
     go_cut [5, 7, 8] from 48 (fun v5 _ _ wx => v5 = .string hst ∧ Below wa.heap.size wa wx)
     case first =>
      cases hg : getV x.ps rcvNm with
      | none =>
        have hh : hst = x.s4 := by rw [HHST.out]; exact hpHost_0 hg
        have HG := Lib.hid (get_none hps hlen hg)
        go_upto_region 14 with fail
        refine pR [_, .pointer (some ⟨bx, 0, none⟩), .pointer (some ⟨bx, 5, none⟩)] ?_
        refine Wl.ld (hxb.cell 5 (.slice (some ad) n5 c5) (by kernel_rfl)) underlying72 ?_
        refine cD func208 HG.out ?_
        rintro e w41 ⟨rfl, hb41⟩
        refine cR ?_
        obtain ⟨hS41, hz41, hy41⟩ := zC hs3 hb41
        replace hxb := hxb.grow hb41
        refine pQ [_, .string ⟨#[]⟩, .bool false, _, _] ?_
        go_upto_region 15 with fail
        refine pR [_, _] ?_
        refine Wl.u ?_
        refine Wl.u ?_
        refine pQ [.bool false] ?_
        go_wp2_with fail
        go_meet
        case rel => exact ⟨by rw [hh], hS41⟩
      | some v =>
        have HG := Lib.hid (get_some hps hlen hg)
        by_cases hv0 : v = ⟨#[]⟩
        ·have hh : hst = x.s4 := by rw [HHST.out]; exact hpHost_1 hg hv0
         go_upto_region 14 with fail
         refine pR [_, .pointer (some ⟨bx, 0, none⟩), .pointer (some ⟨bx, 5, none⟩)] ?_
         refine Wl.ld (hxb.cell 5 (.slice (some ad) n5 c5) (by kernel_rfl)) underlying72 ?_
         refine cD func208 HG.out ?_
         rintro e w41 ⟨rfl, hb41⟩
         refine cR ?_
         obtain ⟨hS41, hz41, hy41⟩ := zC hs3 hb41
         replace hxb := hxb.grow hb41
         refine pQ [_, .string v, .bool true, _, _] ?_
         go_upto_region 15 with fail
         refine pR [_, _, _] ?_
         refine itF v ⟨#[]⟩ hv0 ?_
         refine pQ [.bool false] ?_
         go_wp2_with fail
         go_meet
         case rel => exact ⟨by rw [hh], hS41⟩
        ·have hh : hst = v := by rw [HHST.out]; exact hpHost_2 hg hv0
         go_upto_region 14 with fail
         refine pR [_, .pointer (some ⟨bx, 0, none⟩), .pointer (some ⟨bx, 5, none⟩)] ?_
         refine Wl.ld (hxb.cell 5 (.slice (some ad) n5 c5) (by kernel_rfl)) underlying72 ?_
         refine cD func208 HG.out ?_
         rintro e w41 ⟨rfl, hb41⟩
         refine cR ?_
         obtain ⟨hS41, hz41, hy41⟩ := zC hs3 hb41
         replace hxb := hxb.grow hb41
         refine pQ [_, .string v, .bool true, _, _] ?_
         go_upto_region 15 with fail
         refine pR [_, _, _] ?_
         refine itT v ⟨#[]⟩ hv0 ?_
         refine pQ [.bool true] ?_
         go_upto_region 16 with fail
         refine pS [_, _] ?_
         go_wp2_with fail
         go_meet
         case rel => exact ⟨by rw [hh], hS41⟩
     case rest =>
      obtain ⟨rfl, hs4⟩ := hcut
      have hxb := hxb.grow hs4
      have hps := hps.grow hs4
      have hz4 := hs4.size
      have hs5 := HW2.out.trans (hs4.mono (by have := HW2.out.size; omega))
      cases hg : getV x.ps rptNm with
      | none =>
        have hpp : prt = p0 := by rw [HPRT.out]; exact hpPort_0 hg
        have HG := Lib.hid (get_none hps hlen hg)
        go_upto_region 17 with fail
        refine pR [_, .pointer (some ⟨bx, 0, none⟩), .pointer (some ⟨bx, 5, none⟩)] ?_
        refine Wl.ld (hxb.cell 5 (.slice (some ad) n5 c5) (by kernel_rfl)) underlying72 ?_
        refine cD func208 HG.out ?_
        rintro e w51 ⟨rfl, hb51⟩
        refine cR ?_
        obtain ⟨hS51, hz51, hy51⟩ := zC hs5 hb51
        replace hxb := hxb.grow hb51
        refine pQ [_, .string ⟨#[]⟩, .bool false, _, _] ?_
        go_upto_region 18 with fail
        refine pR [_, _] ?_
        refine Wl.u ?_
        refine Wl.u ?_
        refine pQ [.bool false] ?_
        go_wp2_with fail
        go_meet
        case rel => exact ⟨rfl, by rw [hpp], hs4.trans (hb51.mono hz4)⟩
      | some v =>
        have HG := Lib.hid (get_some hps hlen hg)
        by_cases hv0 : v = ⟨#[]⟩
        ·have hpp : prt = p0 := by rw [HPRT.out]; exact hpPort_1 hg hv0
         go_upto_region 17 with fail
         refine pR [_, .pointer (some ⟨bx, 0, none⟩), .pointer (some ⟨bx, 5, none⟩)] ?_
         refine Wl.ld (hxb.cell 5 (.slice (some ad) n5 c5) (by kernel_rfl)) underlying72 ?_
         refine cD func208 HG.out ?_
         rintro e w51 ⟨rfl, hb51⟩
         refine cR ?_
         obtain ⟨hS51, hz51, hy51⟩ := zC hs5 hb51
         replace hxb := hxb.grow hb51
         refine pQ [_, .string v, .bool true, _, _] ?_
         go_upto_region 18 with fail
         refine pR [_, _, _] ?_
         refine itF v ⟨#[]⟩ hv0 ?_
         refine pQ [.bool false] ?_
         go_wp2_with fail
         go_meet
         case rel => exact ⟨rfl, by rw [hpp], hs4.trans (hb51.mono hz4)⟩
        ·cases hn : num? v with
         | some n =>
           have hpp : prt = n := by rw [HPRT.out]; exact hpPort_2 hg hv0 hn
           go_upto_region 17 with fail
           refine pR [_, .pointer (some ⟨bx, 0, none⟩), .pointer (some ⟨bx, 5, none⟩)] ?_
           refine Wl.ld (hxb.cell 5 (.slice (some ad) n5 c5) (by kernel_rfl)) underlying72 ?_
           refine cD func208 HG.out ?_
           rintro e w51 ⟨rfl, hb51⟩
           refine cR ?_
           obtain ⟨hS51, hz51, hy51⟩ := zC hs5 hb51
           replace hxb := hxb.grow hb51
           refine pQ [_, .string v, .bool true, _, _] ?_
           go_upto_region 18 with fail
           refine pR [_, _, _] ?_
           refine itT v ⟨#[]⟩ hv0 ?_
           refine pQ [.bool true] ?_
           go_upto_region 19 with fail
           refine pR [_] ?_
           refine cC func113 #[.string v] (HE.out.num hn _ hS51 (HOK.out.rp v hg)) ?_
           rintro e w52 ⟨rfl, _, hb52⟩
           refine cR ?_
           obtain ⟨hS52, hz52, hy52⟩ := zC hS51 hb52
           replace hxb := hxb.grow hb52
           refine pQ [_, .int .i64 n, .nilIface, _, _] ?_
           go_upto_region 20 with fail
           refine pS [_, .bool true] ?_
           go_upto_region 21 with fail
           refine pS [_, _] ?_
           go_wp2_with fail
           go_meet
           case rel => exact ⟨rfl, by rw [hpp], (hs4.trans (hb51.mono hz4)).trans (hb52.mono (by have := hb51.size; omega))⟩
         | none =>
           have hpp : prt = p0 := by rw [HPRT.out]; exact hpPort_3 hg hv0 hn
           go_upto_region 17 with fail
           refine pR [_, .pointer (some ⟨bx, 0, none⟩), .pointer (some ⟨bx, 5, none⟩)] ?_
           refine Wl.ld (hxb.cell 5 (.slice (some ad) n5 c5) (by kernel_rfl)) underlying72 ?_
           refine cD func208 HG.out ?_
           rintro e w51 ⟨rfl, hb51⟩
           refine cR ?_
           obtain ⟨hS51, hz51, hy51⟩ := zC hs5 hb51
           replace hxb := hxb.grow hb51
           refine pQ [_, .string v, .bool true, _, _] ?_
           go_upto_region 18 with fail
           refine pR [_, _, _] ?_
           refine itT v ⟨#[]⟩ hv0 ?_
           refine pQ [.bool true] ?_
           go_upto_region 19 with fail
           refine pR [_] ?_
           refine cC func113 #[.string v] (HE.out.numErr hn _ hS51 (HOK.out.rp v hg)) ?_
           rintro e w52 ⟨n, te, pe, rfl, _, hb52⟩
           refine cR ?_
           obtain ⟨hS52, hz52, hy52⟩ := zC hS51 hb52
           replace hxb := hxb.grow hb52
           refine pQ [_, .int .i64 n, .iface te pe, _, _] ?_
           go_upto_region 20 with fail
           refine pS [_, .bool false] ?_
           go_wp2_with fail
           go_meet
           case rel => exact ⟨rfl, by rw [hpp], (hs4.trans (hb51.mono hz4)).trans (hb52.mono (by have := hb51.size; omega))⟩
  case rest =>
   obtain ⟨rfl, rfl, hs4⟩ := hcut
   have hz2 := hS2.size
   have hfin := hS2.trans (hs4.mono hz2)
   have hprb : -9223372036854775808 ≤ prt ∧ prt ≤ 9223372036854775807 := by
    rw [HPRT.out]; unfold hpPort
    repeat' split
    all_goals first | exact hpb | (exact num_bounds (by assumption))
   have his := itoaS_size prt hprb.1 hprb.2
   have HS1 : Hid (hst.size + (⟨#[58]⟩ : ByteArray).size ≤ 1000000000) := by
    have := HHZ.out
    rw [← HHST.out] at this
    unfold Hid
    show _ + 1 ≤ _
    omega
   have HS2 : Hid ((hst ++ (⟨#[58]⟩ : ByteArray)).size + (itoaS prt).size ≤ 1000000000) := by
    have := HHZ.out
    rw [← HHST.out] at this
    unfold Hid
    rw [ByteArray.size_append]
    show hst.size + 1 + _ ≤ _
    omega
   have hs6 := HW.out.trans (hfin.mono hwz)
   go_upto_region 22 with fail
   refine pR [_] ?_
   refine yb (.string (hst ++ (⟨#[58]⟩ : ByteArray))) hs6 (yf_sadd (by kernel_rfl) 9 9 _ _ rfl _ _ (by kernel_rfl) (by kernel_rfl) HS1.out) ?_
   refine pP [_] ?_
   refine cC func79 #[.int .i64 prt] (HE.out.itoa prt _ hs6 hprb.1 hprb.2) ?_
   rintro e w61 ⟨rfl, hb61⟩
   refine cR ?_
   obtain ⟨hS61, hz61, hy61⟩ := zC hs6 hb61
   refine yb (.string ((hst ++ (⟨#[58]⟩ : ByteArray)) ++ itoaS prt)) hS61 (yf_sadd (by kernel_rfl) 9 9 _ _ rfl _ _ (by kernel_rfl) (by kernel_rfl) HS2.out) ?_
   refine pQ [_] ?_
   go_wp2
   go_ret
   exact ⟨rfl, hfin.trans (hb61.mono hfin.size)⟩
def hostPortS (h : ByteArray) (p : Int) : ByteArray := (h ++ (⟨#[58]⟩ : ByteArray)) ++ itoaS p
theorem hp_sz {h : ByteArray} {p : Int} (hh : h.size ≤ 100000000) (h0 : -9223372036854775808 ≤ p) (h1 : p ≤ 9223372036854775807) : Hid (h.size + (⟨#[58]⟩ : ByteArray).size ≤ 1000000000) ∧ Hid ((h ++ (⟨#[58]⟩ : ByteArray)).size + (itoaS p).size ≤ 1000000000) := by
 have := itoaS_size p h0 h1
 refine ⟨?_, ?_⟩
 ·show h.size + 1 ≤ _; omega
 ·show (h ++ (⟨#[58]⟩ : ByteArray)).size + _ ≤ _
  rw [ByteArray.size_append]
  show h.size + 1 + _ ≤ _
  omega
theorem hpPort_bounds {x : SH} {p0 : Int} (h : -9223372036854775808 ≤ p0 ∧ p0 ≤ 9223372036854775807) : -9223372036854775808 ≤ hpPort x p0 ∧ hpPort x p0 ≤ 9223372036854775807 := by
 unfold hpPort
 repeat' split
 all_goals first | exact h | (exact num_bounds (by assumption))
def srcReq (L : List SH) (u : SU) : ByteArray := match viaS L with
 | some x => hostPortS (hpHost x) (hpPort x (hpP0 x (trReq L u)))
 | none => hostPortS ⟨#[]⟩ 0
def dstReq (L : List SH) (u : SU) : ByteArray :=
 let v := match routeS L with | some r => r.u | none => u
 hostPortS v.host (if 0 < v.port then v.port else dport (lowS (trReq L u)))
structure SrcOK (L : List SH) : Prop where
 via : ∀ x, viaS L = some x → ViaOK x ∧ (hpHost x).size ≤ 100000000 ∧ NoBr (hpHost x) ∧ -9223372036854775808 ≤ x.n ∧ x.n ≤ 9223372036854775807
theorem reqSource_c (w0 : World) (hE : Env w0) (base : Nat) (w : World) (hw : Below w0.heap.size w0 w) (b : Nat) (vals : List Value) (L : List SH) (cp : Bool) (ver bd : Value) (meth : Value) (u : SU) (v8 v9 : Value) (h : RqB base w b vals L cp ver bd meth u v8 v9) (hn : NoStray L) (hR : TrOK (match routeS L with | some r => r.u | none => u)) (hS : SrcOK L) (htz : (trReq L u).size ≤ 100000000) :
 Calls Tryz.prog 305 #[.pointer (some ⟨b, 0, none⟩)] w fun e w' => e = .returned (.string (srcReq L u)) ∧ Below w.heap.size w w' := by
 obtain ⟨P, hvb⟩ := h.vb
 have hM := mdSource_c b ⟨#[]⟩ w (hvb.cell 3 _ rfl)
 clear hvb P
 have hV : ∀ w1, Below w0.heap.size w0 w1 → RqB base w1 b vals L cp ver bd meth u v8 v9 → Calls Tryz.prog 311 #[.pointer (some ⟨b, 0, none⟩)] w1 fun e w' => e = .returned (.string (srcReq L u)) ∧ Below w1.heap.size w1 w' := by
  intro w1 hw1 h1
  have hs0 := Below.refl w1.heap.size w1
  have hwz := hw1.size
  have hs1 := hw1
  obtain ⟨hst, prt, hHP, hU, hres, hsz, hpb⟩ : ∃ hst prt, Calls Tryz.prog 316 #[.pointer (some ⟨b, 0, none⟩)] w1 (fun e w' => e = .returned (.tuple #[.string hst, .int .i64 prt]) ∧ Below w1.heap.size w1 w') ∧ (∀ w, Calls Tryz.prog 317 #[.string hst] w fun e w' => e = .returned (.string hst) ∧ Below w.heap.size w w') ∧ srcReq L u = hostPortS hst prt ∧ hst.size ≤ 100000000 ∧ (-9223372036854775808 ≤ prt ∧ prt ≤ 9223372036854775807) := by
   cases hv : viaS L with
   | none => exact ⟨⟨#[]⟩, 0, reqHP_none base w1 b vals L cp ver bd meth u v8 v9 h1 hn hv, fun w => uriNetIP_c ⟨#[]⟩ (fun h => absurd h (by decide)) (by decide) w, by unfold srcReq; rw [hv], by decide, by decide, by decide⟩
   | some x =>
     obtain ⟨q1, q2, q3, q4⟩ := hS.via x hv
     refine ⟨_, _, reqHP_some w0 hE base w1 hw1 b vals L cp ver bd meth u v8 v9 h1 hn hR x hv q1 htz, fun w => uriNetIP_c _ q3 q2 w, by unfold srcReq; rw [hv], q2, hpPort_bounds ?_⟩
     unfold hpP0
     split
     ·exact q4
     ·exact dport_bounds _
  obtain ⟨HS1, HS2⟩ := hp_sz hsz hpb.1 hpb.2
  have HRES := Lib.hid hres
  have HHP := Lib.hid hHP
  have HUU := Lib.hid hU
  have HE := Lib.hid hE
  clear hres hHP hU hE
  go_enter func311, ntmps311
  go_upto_region 0 with fail
  refine pS [_] ?_
  go_upto_region 1 with fail
  refine pR [_] ?_
  refine cD func316 HHP.out ?_
  rintro e w11 ⟨rfl, hb11⟩
  refine cR ?_
  obtain ⟨hS11, hz11, hy11⟩ := zC hs1 hb11
  refine pQ [_, .string hst, .int .i64 prt, _, _] ?_
  go_upto_region 2 with fail
  refine pR [_] ?_
  refine cC func317 #[.string hst] (HUU.out _) ?_
  rintro e w12 ⟨rfl, hb12⟩
  refine cR ?_
  obtain ⟨hS12, hz12, hy12⟩ := zC hS11 hb12
  refine yb (.string (hst ++ (⟨#[58]⟩ : ByteArray))) hS12 (yf_sadd (by kernel_rfl) 9 9 _ _ rfl _ _ (by kernel_rfl) (by kernel_rfl) HS1.out) ?_
  refine pP [_] ?_
  refine cC func79 #[.int .i64 prt] (HE.out.itoa prt _ hS12 hpb.1 hpb.2) ?_
  rintro e w13 ⟨rfl, hb13⟩
  refine cR ?_
  obtain ⟨hS13, hz13, hy13⟩ := zC hS12 hb13
  refine yb (.string ((hst ++ (⟨#[58]⟩ : ByteArray)) ++ itoaS prt)) hS13 (yf_sadd (by kernel_rfl) 9 9 _ _ rfl _ _ (by kernel_rfl) (by kernel_rfl) HS2.out) ?_
  refine pQ [_] ?_
  go_wp2
  go_ret
  exact ⟨by rw [HRES.out]; rfl, (hb11.trans (hb12.mono hb11.size)).trans (hb13.mono (by have := hb11.size; have := hb12.size; omega))⟩
 have HV := Lib.hid hV
 have HW := Lib.hid hw
 have hs1 := hw
 have hs0 := Below.refl w.heap.size w
 clear hV hw hE hS hR
 go_enter func305, ntmps305
 go_upto_region 0 with fail
 refine pS [_] ?_
 go_upto_region 1 with fail
 refine pR [_, .pointer (some ⟨b, 0, none⟩), .pointer (some ⟨b, 0, none⟩)] ?_
 refine cD func200 hM ?_
 rintro e w11 ⟨rfl, hb11⟩
 refine cR ?_
 obtain ⟨hS11, hz11, hy11⟩ := zC hs1 hb11
 replace h := h.grow hb11
 refine pQ [_] ?_
 go_upto_region 2 with fail
 refine pS [_, .bool false] ?_
 go_upto_region 4 with fail
 refine pR [_] ?_
 refine cC func311 #[.pointer (some ⟨b, 0, none⟩)] (HV.out _ hS11 h) ?_
 rintro e w12 ⟨rfl, hb12⟩
 refine cR ?_
 obtain ⟨hS12, hz12, hy12⟩ := zC hS11 hb12
 replace h := h.grow hb12
 refine pQ [_] ?_
 go_wp2
 go_ret
 exact ⟨rfl, hb11.trans (hb12.mono hb11.size)⟩
theorem reqDest_c (w0 : World) (hE : Env w0) (base : Nat) (w : World) (hw : Below w0.heap.size w0 w) (b : Nat) (vals : List Value) (L : List SH) (cp : Bool) (ver bd : Value) (meth : Value) (u : SU) (v8 v9 : Value) (h : RqB base w b vals L cp ver bd meth u v8 v9) (hn : NoStray L) (hR : TrOK (match routeS L with | some r => r.u | none => u)) (htz : (trReq L u).size ≤ 100000000) (hhz : (match routeS L with | some r => r.u | none => u).host.size ≤ 100000000) :
 Calls Tryz.prog 304 #[.pointer (some ⟨b, 0, none⟩)] w fun e w' => e = .returned (.string (dstReq L u)) ∧ Below w.heap.size w w' := by
 obtain ⟨P, hvb⟩ := h.vb
 have hM := mdDestination_c b ⟨#[]⟩ w (hvb.cell 4 _ rfl)
 cases hv : routeS L with
 | none =>
   rw [hv] at hhz
   have hpo : -9223372036854775808 ≤ u.port ∧ u.port ≤ 9223372036854775807 := ⟨h.lo, h.hi⟩
   by_cases hpos : 0 < u.port
   ·have hpv : (if 0 < u.port then u.port else dport (lowS (trReq L u))) = u.port := by rw [if_pos hpos]
    have hres : Hid (dstReq L u = hostPortS u.host u.port) := by unfold Hid dstReq; rw [hv]; simp only []; rw [hpv]
    obtain ⟨HS1, HS2⟩ := hp_sz hhz (p := u.port) hpo.1 hpo.2
    have HE := Lib.hid hE
    have HN := Lib.hid hn
    have HR := Lib.hid hR
    have HTZ := Lib.hid htz
    have hs1 := hw
    rw [hres.out]
    clear hE hn hR hw hpv hres
    go_enter func304, ntmps304
    go_upto_region 0 with fail
    refine pS [_] ?_
    go_upto_region 1 with fail
    refine pR [_, .pointer (some ⟨b, 0, none⟩), .pointer (some ⟨b, 0, none⟩)] ?_
    refine cD func207 hM ?_
    rintro e w11 ⟨rfl, hb11⟩
    refine cR ?_
    obtain ⟨hS11, hz11, hy11⟩ := zC hs1 hb11
    replace h := h.grow hb11
    replace hvb := hvb.grow hb11
    refine pQ [_] ?_
    go_upto_region 2 with fail
    refine pS [_, .bool false] ?_
    go_upto_region 4 with fail
    refine pS [_] ?_
    go_upto_region 5 with fail
    refine pR [_, .pointer (some ⟨b, 0, none⟩), .pointer (some ⟨b, 0, none⟩), .pointer (some ⟨b, 0, none⟩)] ?_
    refine cD func195 (routeNo h.hs HN.out hv) ?_
    rintro e w12 ⟨rfl, hb12⟩
    refine cR ?_
    obtain ⟨hS12, hz12, hy12⟩ := zC hS11 hb12
    replace h := h.grow hb12
    replace hvb := hvb.grow hb12
    refine pQ [_] ?_
    go_upto_region 6 with fail
    refine pS [_, .bool false] ?_
    go_upto_region 8 with fail
    refine pS [_, .bool true] ?_
    go_upto_region 9 with fail
    refine pS [_, .pointer (some ⟨b, 0, none⟩), .pointer (some ⟨b, 19, none⟩), _] ?_
    go_upto_region 10 with fail
    refine pR [_, .pointer (some ⟨b, 19, none⟩), .pointer (some ⟨b, 25, none⟩)] ?_
    refine Wl.ld (hvb.cell 12 (.string u.host) (by kernel_rfl)) underlying9 ?_
    refine pQ [_] ?_
    go_upto_region 11 with fail
    refine pR [_, .pointer (some ⟨b, 19, none⟩), .pointer (some ⟨b, 26, none⟩)] ?_
    refine Wl.ld (hvb.cell 13 (.int .i64 u.port) (by kernel_rfl)) underlying3 ?_
    refine igT .i64 u.port 0 ?_
    refine wN ?_
    go_upto_region 12 with fail
    refine pR [_] ?_
    refine yb (.string (u.host ++ (⟨#[58]⟩ : ByteArray))) hS12 (yf_sadd (by kernel_rfl) 9 9 _ _ rfl _ _ (by kernel_rfl) (by kernel_rfl) HS1.out) ?_
    refine pP [_, .pointer (some ⟨b, 19, none⟩), .pointer (some ⟨b, 26, none⟩)] ?_
    refine Wl.ld (hvb.cell 13 (.int .i64 u.port) (by kernel_rfl)) underlying3 ?_
    refine cC func79 #[.int .i64 u.port] (HE.out.itoa _ _ hS12 hpo.1 hpo.2) ?_
    rintro e w13 ⟨rfl, hb13⟩
    refine cR ?_
    obtain ⟨hS13, hz13, hy13⟩ := zC hS12 hb13
    replace h := h.grow hb13
    replace hvb := hvb.grow hb13
    refine yb (.string ((u.host ++ (⟨#[58]⟩ : ByteArray)) ++ itoaS u.port)) hS13 (yf_sadd (by kernel_rfl) 9 9 _ _ rfl _ _ (by kernel_rfl) (by kernel_rfl) HS2.out) ?_
    refine pQ [_] ?_
    go_wp2
    go_ret
    exact ⟨rfl, ((((Below.refl w.heap.size w).trans (hb11.mono (by skip; omega))).trans (hb12.mono (by skip; have := hb11.size; omega))).trans (hb13.mono (by skip; have := hb11.size; have := hb12.size; omega)))⟩
   ·have hpv : (if 0 < u.port then u.port else dport (lowS (trReq L u))) = dport (lowS (trReq L u)) := by rw [if_neg hpos]
    have hres : Hid (dstReq L u = hostPortS u.host (dport (lowS (trReq L u)))) := by unfold Hid dstReq; rw [hv]; simp only []; rw [hpv]
    obtain ⟨HS1, HS2⟩ := hp_sz hhz (p := dport (lowS (trReq L u))) (dport_bounds _).1 (dport_bounds _).2
    have HE := Lib.hid hE
    have HN := Lib.hid hn
    have HR := Lib.hid hR
    have HTZ := Lib.hid htz
    have hs1 := hw
    rw [hres.out]
    clear hE hn hR hw hpv hres
    go_enter func304, ntmps304
    go_upto_region 0 with fail
    refine pS [_] ?_
    go_upto_region 1 with fail
    refine pR [_, .pointer (some ⟨b, 0, none⟩), .pointer (some ⟨b, 0, none⟩)] ?_
    refine cD func207 hM ?_
    rintro e w11 ⟨rfl, hb11⟩
    refine cR ?_
    obtain ⟨hS11, hz11, hy11⟩ := zC hs1 hb11
    replace h := h.grow hb11
    replace hvb := hvb.grow hb11
    refine pQ [_] ?_
    go_upto_region 2 with fail
    refine pS [_, .bool false] ?_
    go_upto_region 4 with fail
    refine pS [_] ?_
    go_upto_region 5 with fail
    refine pR [_, .pointer (some ⟨b, 0, none⟩), .pointer (some ⟨b, 0, none⟩), .pointer (some ⟨b, 0, none⟩)] ?_
    refine cD func195 (routeNo h.hs HN.out hv) ?_
    rintro e w12 ⟨rfl, hb12⟩
    refine cR ?_
    obtain ⟨hS12, hz12, hy12⟩ := zC hS11 hb12
    replace h := h.grow hb12
    replace hvb := hvb.grow hb12
    refine pQ [_] ?_
    go_upto_region 6 with fail
    refine pS [_, .bool false] ?_
    go_upto_region 8 with fail
    refine pS [_, .bool true] ?_
    go_upto_region 9 with fail
    refine pS [_, .pointer (some ⟨b, 0, none⟩), .pointer (some ⟨b, 19, none⟩), _] ?_
    go_upto_region 10 with fail
    refine pR [_, .pointer (some ⟨b, 19, none⟩), .pointer (some ⟨b, 25, none⟩)] ?_
    refine Wl.ld (hvb.cell 12 (.string u.host) (by kernel_rfl)) underlying9 ?_
    refine pQ [_] ?_
    go_upto_region 11 with fail
    refine pR [_, .pointer (some ⟨b, 19, none⟩), .pointer (some ⟨b, 26, none⟩)] ?_
    refine Wl.ld (hvb.cell 13 (.int .i64 u.port) (by kernel_rfl)) underlying3 ?_
    refine igF .i64 u.port 0 ?_
    refine wN ?_
    go_upto_region 13 with fail
    refine pR [_] ?_
    refine cC func308 #[.pointer (some ⟨b, 0, none⟩)] (reqTransport_c base _ b vals L cp ver bd meth u v8 v9 h HN.out HR.out) ?_
    rintro e w13 ⟨rfl, hb13⟩
    refine cR ?_
    obtain ⟨hS13, hz13, hy13⟩ := zC hS12 hb13
    replace h := h.grow hb13
    replace hvb := hvb.grow hb13
    refine cC func58 #[.string (trReq L u)] (defaultPort_c _ _ HTZ.out) ?_
    rintro e w14 ⟨rfl, hb14⟩
    refine cR ?_
    obtain ⟨hS14, hz14, hy14⟩ := zC hS13 hb14
    replace h := h.grow hb14
    replace hvb := hvb.grow hb14
    refine pQ [_] ?_
    go_upto_region 14 with fail
    refine pR [_] ?_
    refine yb (.string (u.host ++ (⟨#[58]⟩ : ByteArray))) hS14 (yf_sadd (by kernel_rfl) 9 9 _ _ rfl _ _ (by kernel_rfl) (by kernel_rfl) HS1.out) ?_
    refine pP [_] ?_
    refine cC func79 #[.int .i64 (dport (lowS (trReq L u)))] (HE.out.itoa _ _ hS14 (dport_bounds _).1 (dport_bounds _).2) ?_
    rintro e w15 ⟨rfl, hb15⟩
    refine cR ?_
    obtain ⟨hS15, hz15, hy15⟩ := zC hS14 hb15
    replace h := h.grow hb15
    replace hvb := hvb.grow hb15
    refine yb (.string ((u.host ++ (⟨#[58]⟩ : ByteArray)) ++ itoaS (dport (lowS (trReq L u))))) hS15 (yf_sadd (by kernel_rfl) 9 9 _ _ rfl _ _ (by kernel_rfl) (by kernel_rfl) HS2.out) ?_
    refine pQ [_] ?_
    go_wp2
    go_ret
    exact ⟨rfl, ((((((Below.refl w.heap.size w).trans (hb11.mono (by skip; omega))).trans (hb12.mono (by skip; have := hb11.size; omega))).trans (hb13.mono (by skip; have := hb11.size; have := hb12.size; omega))).trans (hb14.mono (by skip; have := hb11.size; have := hb12.size; have := hb13.size; omega))).trans (hb15.mono (by skip; have := hb11.size; have := hb12.size; have := hb13.size; have := hb14.size; omega)))⟩
 | some x =>
   rw [hv] at hhz
   clear hvb P
   obtain ⟨bx, r8, r9, hrx, hV⟩ := routeGet h.hs hv
   have hpo : -9223372036854775808 ≤ x.u.port ∧ x.u.port ≤ 9223372036854775807 := ⟨hrx.lo, hrx.hi⟩
   have hxb := hrx.blk
   by_cases hpos : 0 < x.u.port
   ·have hpv : (if 0 < x.u.port then x.u.port else dport (lowS (trReq L u))) = x.u.port := by rw [if_pos hpos]
    have hres : Hid (dstReq L u = hostPortS x.u.host x.u.port) := by unfold Hid dstReq; rw [hv]; simp only []; rw [hpv]
    obtain ⟨HS1, HS2⟩ := hp_sz hhz (p := x.u.port) hpo.1 hpo.2
    have HE := Lib.hid hE
    have HN := Lib.hid hn
    have HR := Lib.hid hR
    have HTZ := Lib.hid htz
    have hs1 := hw
    rw [hres.out]
    clear hE hn hR hw hpv hres
    go_enter func304, ntmps304
    go_upto_region 0 with fail
    refine pS [_] ?_
    go_upto_region 1 with fail
    refine pR [_, .pointer (some ⟨b, 0, none⟩), .pointer (some ⟨b, 0, none⟩)] ?_
    refine cD func207 hM ?_
    rintro e w11 ⟨rfl, hb11⟩
    refine cR ?_
    obtain ⟨hS11, hz11, hy11⟩ := zC hs1 hb11
    replace h := h.grow hb11
    replace hxb := hxb.grow hb11
    refine pQ [_] ?_
    go_upto_region 2 with fail
    refine pS [_, .bool false] ?_
    go_upto_region 4 with fail
    refine pS [_] ?_
    go_upto_region 5 with fail
    refine pR [_, .pointer (some ⟨b, 0, none⟩), .pointer (some ⟨b, 0, none⟩), .pointer (some ⟨b, 0, none⟩)] ?_
    refine cC func195 #[.pointer (some ⟨b, 0, none⟩)] (hV _ h.hs) ?_
    rintro e _ ⟨rfl, rfl⟩
    refine cR ?_
    refine pQ [_] ?_
    go_upto_region 6 with fail
    refine pS [_, .bool true] ?_
    go_upto_region 7 with fail
    refine pS [_, .pointer (some ⟨bx, 0, none⟩), .pointer (some ⟨bx, 0, none⟩), _] ?_
    go_upto_region 8 with fail
    refine pS [_, .bool false] ?_
    go_upto_region 10 with fail
    refine pR [_, .pointer (some ⟨bx, 0, none⟩), .pointer (some ⟨bx, 6, none⟩)] ?_
    refine Wl.ld (hxb.cell 6 (.string x.u.host) (by kernel_rfl)) underlying9 ?_
    refine pQ [_] ?_
    go_upto_region 11 with fail
    refine pR [_, .pointer (some ⟨bx, 0, none⟩), .pointer (some ⟨bx, 7, none⟩)] ?_
    refine Wl.ld (hxb.cell 7 (.int .i64 x.u.port) (by kernel_rfl)) underlying3 ?_
    refine igT .i64 x.u.port 0 ?_
    refine wN ?_
    go_upto_region 12 with fail
    refine pR [_] ?_
    refine yb (.string (x.u.host ++ (⟨#[58]⟩ : ByteArray))) hS11 (yf_sadd (by kernel_rfl) 9 9 _ _ rfl _ _ (by kernel_rfl) (by kernel_rfl) HS1.out) ?_
    refine pP [_, .pointer (some ⟨bx, 0, none⟩), .pointer (some ⟨bx, 7, none⟩)] ?_
    refine Wl.ld (hxb.cell 7 (.int .i64 x.u.port) (by kernel_rfl)) underlying3 ?_
    refine cC func79 #[.int .i64 x.u.port] (HE.out.itoa _ _ hS11 hpo.1 hpo.2) ?_
    rintro e w12 ⟨rfl, hb12⟩
    refine cR ?_
    obtain ⟨hS12, hz12, hy12⟩ := zC hS11 hb12
    replace h := h.grow hb12
    replace hxb := hxb.grow hb12
    refine yb (.string ((x.u.host ++ (⟨#[58]⟩ : ByteArray)) ++ itoaS x.u.port)) hS12 (yf_sadd (by kernel_rfl) 9 9 _ _ rfl _ _ (by kernel_rfl) (by kernel_rfl) HS2.out) ?_
    refine pQ [_] ?_
    go_wp2
    go_ret
    exact ⟨rfl, (((Below.refl w.heap.size w).trans (hb11.mono (by skip; omega))).trans (hb12.mono (by skip; have := hb11.size; omega)))⟩
   ·have hpv : (if 0 < x.u.port then x.u.port else dport (lowS (trReq L u))) = dport (lowS (trReq L u)) := by rw [if_neg hpos]
    have hres : Hid (dstReq L u = hostPortS x.u.host (dport (lowS (trReq L u)))) := by unfold Hid dstReq; rw [hv]; simp only []; rw [hpv]
    obtain ⟨HS1, HS2⟩ := hp_sz hhz (p := dport (lowS (trReq L u))) (dport_bounds _).1 (dport_bounds _).2
    have HE := Lib.hid hE
    have HN := Lib.hid hn
    have HR := Lib.hid hR
    have HTZ := Lib.hid htz
    have hs1 := hw
    rw [hres.out]
    clear hE hn hR hw hpv hres
    go_enter func304, ntmps304
    go_upto_region 0 with fail
    refine pS [_] ?_
    go_upto_region 1 with fail
    refine pR [_, .pointer (some ⟨b, 0, none⟩), .pointer (some ⟨b, 0, none⟩)] ?_
    refine cD func207 hM ?_
    rintro e w11 ⟨rfl, hb11⟩
    refine cR ?_
    obtain ⟨hS11, hz11, hy11⟩ := zC hs1 hb11
    replace h := h.grow hb11
    replace hxb := hxb.grow hb11
    refine pQ [_] ?_
    go_upto_region 2 with fail
    refine pS [_, .bool false] ?_
    go_upto_region 4 with fail
    refine pS [_] ?_
    go_upto_region 5 with fail
    refine pR [_, .pointer (some ⟨b, 0, none⟩), .pointer (some ⟨b, 0, none⟩), .pointer (some ⟨b, 0, none⟩)] ?_
    refine cC func195 #[.pointer (some ⟨b, 0, none⟩)] (hV _ h.hs) ?_
    rintro e _ ⟨rfl, rfl⟩
    refine cR ?_
    refine pQ [_] ?_
    go_upto_region 6 with fail
    refine pS [_, .bool true] ?_
    go_upto_region 7 with fail
    refine pS [_, .pointer (some ⟨bx, 0, none⟩), .pointer (some ⟨bx, 0, none⟩), _] ?_
    go_upto_region 8 with fail
    refine pS [_, .bool false] ?_
    go_upto_region 10 with fail
    refine pR [_, .pointer (some ⟨bx, 0, none⟩), .pointer (some ⟨bx, 6, none⟩)] ?_
    refine Wl.ld (hxb.cell 6 (.string x.u.host) (by kernel_rfl)) underlying9 ?_
    refine pQ [_] ?_
    go_upto_region 11 with fail
    refine pR [_, .pointer (some ⟨bx, 0, none⟩), .pointer (some ⟨bx, 7, none⟩)] ?_
    refine Wl.ld (hxb.cell 7 (.int .i64 x.u.port) (by kernel_rfl)) underlying3 ?_
    refine igF .i64 x.u.port 0 ?_
    refine wN ?_
    go_upto_region 13 with fail
    refine pR [_] ?_
    refine cC func308 #[.pointer (some ⟨b, 0, none⟩)] (reqTransport_c base _ b vals L cp ver bd meth u v8 v9 h HN.out HR.out) ?_
    rintro e w12 ⟨rfl, hb12⟩
    refine cR ?_
    obtain ⟨hS12, hz12, hy12⟩ := zC hS11 hb12
    replace h := h.grow hb12
    replace hxb := hxb.grow hb12
    refine cC func58 #[.string (trReq L u)] (defaultPort_c _ _ HTZ.out) ?_
    rintro e w13 ⟨rfl, hb13⟩
    refine cR ?_
    obtain ⟨hS13, hz13, hy13⟩ := zC hS12 hb13
    replace h := h.grow hb13
    replace hxb := hxb.grow hb13
    refine pQ [_] ?_
    go_upto_region 14 with fail
    refine pR [_] ?_
    refine yb (.string (x.u.host ++ (⟨#[58]⟩ : ByteArray))) hS13 (yf_sadd (by kernel_rfl) 9 9 _ _ rfl _ _ (by kernel_rfl) (by kernel_rfl) HS1.out) ?_
    refine pP [_] ?_
    refine cC func79 #[.int .i64 (dport (lowS (trReq L u)))] (HE.out.itoa _ _ hS13 (dport_bounds _).1 (dport_bounds _).2) ?_
    rintro e w14 ⟨rfl, hb14⟩
    refine cR ?_
    obtain ⟨hS14, hz14, hy14⟩ := zC hS13 hb14
    replace h := h.grow hb14
    replace hxb := hxb.grow hb14
    refine yb (.string ((x.u.host ++ (⟨#[58]⟩ : ByteArray)) ++ itoaS (dport (lowS (trReq L u))))) hS14 (yf_sadd (by kernel_rfl) 9 9 _ _ rfl _ _ (by kernel_rfl) (by kernel_rfl) HS2.out) ?_
    refine pQ [_] ?_
    go_wp2
    go_ret
    exact ⟨rfl, (((((Below.refl w.heap.size w).trans (hb11.mono (by skip; omega))).trans (hb12.mono (by skip; have := hb11.size; omega))).trans (hb13.mono (by skip; have := hb11.size; have := hb12.size; omega))).trans (hb14.mono (by skip; have := hb11.size; have := hb12.size; have := hb13.size; omega)))⟩
theorem step_bytes {P : Program} {ops : Array Oper} {o : Oper} {a : Act} {w : World} {K : Act → World → Prop} {Q : Exit → Act → World → Prop} {E : Prop} (hgd : o.guard = none) (src dst e : TypeId) (x : Operand) (ho : o.op = .convert src dst x) (s : ByteArray) (hx : a.eval x = .string s) (hs : s.size ≤ 4611686018427387904) {u : TypeDesc}
 (h1 : P.underlying src = some u) (h2 : P.underlying dst = some (.slice e)) (h3 : P.underlying e = some (.int .u8))
 (h : ∀ v W, Bs W v s.data.toList → Below w.heap.size w W → K (a.put o.dst v) W) : if Region.wanted o (yielded ops a.tmps) = true then Oper.wp P o a w K Q else E := by
 have hw : Region.wanted o (yielded ops a.tmps) = true := by simp [Region.wanted, hgd]
 rw [if_pos hw]
 obtain ⟨v, W, hr, hb, hB⟩ := to_bytes (P := P) w src dst e s hs h1 h2 h3
 unfold Oper.wp execOp
 simp only [ho, hx, Sem.run_bind, Sem.run_pure, Result.andThen_ok, hr]
 exact h v W hb hB
def hdsOf (m : Ms) : List SH := m.heads.map toSH ++ [clenSH m.body.length]
theorem ReqOut.rq {m : Ms} {w : World} {e : Ending} {w' : World} (h : ReqOut m w e w') (hu : m.uri.raw = []) : ∃ b vals bd v8 v9, e = .returned (.iface 107 (.pointer (some ⟨b, 0, none⟩))) ∧ RqB w.heap.size w' b vals (hdsOf m) m.compact (.string (mk m.ver)) bd (.string (mk m.method)) (toSU m.uri) v8 v9 ∧ Below w.heap.size w w' := by
 obtain ⟨b, vals, ucs, u, bd, h1, h2, h3, h4, h5⟩ := h
 obtain rfl := h4 hu
 obtain ⟨v8, v9, hc, h8, h9⟩ := h3.cellsEq
 refine ⟨b, vals, bd, v8, v9, h1, ⟨?_, h8, h9, h3.portLo, h3.portHi⟩, h5⟩
 rw [hc] at h2
 exact h2
theorem where_req (w : World) (hE : Env w) (cs : Array Value) (m : Ms) (h : MsR w cs m) (hsm : m.Small) (hg : GoodMs m) (hresp : m.resp = false) (hn : NoStray (hdsOf m)) (hS : SrcOK (hdsOf m)) (htz : (trReq (hdsOf m) (toSU m.uri)).size ≤ 100000000) (hu : m.uri.raw = []) (hR : TrOK (match routeS (hdsOf m) with | some r => r.u | none => toSU m.uri)) (hhz : (match routeS (hdsOf m) with | some r => r.u | none => toSU m.uri).host.size ≤ 100000000) (hsz : (srcReq (hdsOf m) (toSU m.uri)).size ≤ 4000000000) (hdz : (dstReq (hdsOf m) (toSU m.uri)).size ≤ 4000000000) :
 Calls Tryz.prog 11 #[.agg cs] w fun e w' => ∃ p q r, e = .returned (.tuple #[p, q, r]) ∧ Bs w' p (trReq (hdsOf m) (toSU m.uri)).data.toList ∧ Bs w' q (srcReq (hdsOf m) (toSU m.uri)).data.toList ∧ Bs w' r (dstReq (hdsOf m) (toSU m.uri)).data.toList ∧ Below w.heap.size w w' := by
 obtain ⟨W0, hW0⟩ : ∃ W0, W0 = w.alloc (.cells cs 28) := ⟨_, rfl⟩
 have hB0 : Below w.heap.size w W0 := by rw [hW0]; exact below_alloc w _
 have hE0 := hE.mono hB0
 have hmsg := message_req asciiToLower_c cs m W0 (addrAll hE0) (h.grow hB0) hsm hg hresp
 have hmsg := hmsg.mono fun e w' q => q.rq hu
 have hkc0 : Blk W0 w.heap.size cs 28 := by rw [hW0]; exact Blk.new w cs _
 have HSZ := Lib.hid h.size
 have HMSG := Lib.hid hmsg
 have HN := Lib.hid hn
 have HE := Lib.hid hE
 have HW0 := Lib.hid hW0
 have HTZ := Lib.hid htz
 have HSS := Lib.hid hS
 have HR := Lib.hid hR
 have HHZ := Lib.hid hhz
 clear hmsg hn hE hE0 hW0 h hsm hg hresp htz hS hR hhz
 obtain ⟨tr, htr⟩ : ∃ s, s = trReq (hdsOf m) (toSU m.uri) := ⟨_, rfl⟩
 obtain ⟨sr, hsr⟩ : ∃ s, s = srcReq (hdsOf m) (toSU m.uri) := ⟨_, rfl⟩
 obtain ⟨ds, hds⟩ : ∃ s, s = dstReq (hdsOf m) (toSU m.uri) := ⟨_, rfl⟩
 rw [← htr] at HTZ ⊢
 rw [← hsr] at hsz ⊢
 rw [← hds] at hdz ⊢
 have HTR := Lib.hid htr
 have HSR := Lib.hid hsr
 have HDS := Lib.hid hds
 clear htr hsr hds
 have htz2 : tr.size ≤ 4611686018427387904 := by have := HTZ.out; omega
 have hsz2 : sr.size ≤ 4611686018427387904 := by omega
 have hdz2 : ds.size ≤ 4611686018427387904 := by omega
 clear hsz hdz
 go_enter func11, ntmps11
 go_upto_region 1 with fail
 rw [← HW0.out]
 clear HW0
 have hs00 := Below.refl W0.heap.size W0
 have hz0 := hB0.size
 go_upto_region 1 with fail
 apply wR
 refine yb (.agg (cs)) hs00 (yA 28 w.heap.size 0 cs underlying28 (infoMs.trans (congrArg some HSZ.out.symm)) (fun w' h => (hkc0.grow h).cells)) ?_
 refine cD func29 HMSG.out ?_
 rintro e w11 ⟨b, vals, bd, v8, v9, rfl, hq, hb11⟩
 refine cR ?_
 obtain ⟨hS11, hz11, hy11⟩ := zC hs00 hb11
 refine pQ [_] ?_
 have hS11 := hB0.trans (hS11.mono hz0)
 have HC1 : Hid (∀ W, Below w.heap.size w W → RqB W0.heap.size W b vals (hdsOf m) m.compact (.string (mk m.ver)) bd (.string (mk m.method)) (toSU m.uri) v8 v9 → Calls Tryz.prog 308 #[.pointer (some ⟨b, 0, none⟩)] W fun e w' => e = .returned (.string tr) ∧ Below W.heap.size W w') := by
  intro W hW hq
  rw [HTR.out]
  exact reqTransport_c _ _ b vals _ _ _ bd _ _ v8 v9 hq HN.out HR.out
 have HC2 : Hid (∀ W, Below w.heap.size w W → RqB W0.heap.size W b vals (hdsOf m) m.compact (.string (mk m.ver)) bd (.string (mk m.method)) (toSU m.uri) v8 v9 → Calls Tryz.prog 305 #[.pointer (some ⟨b, 0, none⟩)] W fun e w' => e = .returned (.string sr) ∧ Below W.heap.size W w') := by
  intro W hW hq
  rw [HSR.out]
  exact reqSource_c w HE.out _ _ hW b vals _ _ _ bd _ _ v8 v9 hq HN.out HR.out HSS.out (by rw [← HTR.out]; exact HTZ.out)
 have HC3 : Hid (∀ W, Below w.heap.size w W → RqB W0.heap.size W b vals (hdsOf m) m.compact (.string (mk m.ver)) bd (.string (mk m.method)) (toSU m.uri) v8 v9 → Calls Tryz.prog 304 #[.pointer (some ⟨b, 0, none⟩)] W fun e w' => e = .returned (.string ds) ∧ Below W.heap.size W w') := by
  intro W hW hq
  rw [HDS.out]
  exact reqDest_c w HE.out _ _ hW b vals _ _ _ bd _ _ v8 v9 hq HN.out HR.out (by rw [← HTR.out]; exact HTZ.out) HHZ.out
 go_upto_region 2 with fail
 refine pR [_] ?_
 refine Wl.step (fun K hK => ?_)
 refine step_enter rfl 308 #[.pointer (some ⟨b, 0, none⟩)] (by kernel_rfl) (HC1.out _ hS11 hq) ?_
 rintro e w21 ⟨rfl, hb21⟩
 refine ⟨_, rfl, ?_⟩
 obtain ⟨hS21, hz21, hy21⟩ := zC hS11 hb21
 replace hq := hq.grow hb21
 refine hK _ _ ?_
 clear hK K
 (try simp only [Act.put, zD, zE, zF])
 refine Wl.step (fun K hK => ?_)
 refine step_bytes rfl 9 22 5 _ rfl tr (by kernel_rfl) htz2 underlying9 underlying22 underlying5 ?_
 intro p w22 hb_p hb22
 obtain ⟨hS22, hz22, hy22⟩ := zC hS21 hb22
 replace hq := hq.grow hb22
 refine hK _ _ ?_
 clear hK K
 (try simp only [Act.put, zD, zE, zF])
 refine pP [_] ?_
 refine Wl.step (fun K hK => ?_)
 refine step_enter rfl 305 #[.pointer (some ⟨b, 0, none⟩)] (by kernel_rfl) (HC2.out _ hS22 hq) ?_
 rintro e w23 ⟨rfl, hb23⟩
 refine ⟨_, rfl, ?_⟩
 obtain ⟨hS23, hz23, hy23⟩ := zC hS22 hb23
 replace hq := hq.grow hb23
 replace hb_p := hb_p.grow hb23
 refine hK _ _ ?_
 clear hK K
 (try simp only [Act.put, zD, zE, zF])
 refine Wl.step (fun K hK => ?_)
 refine step_bytes rfl 9 22 5 _ rfl sr (by kernel_rfl) hsz2 underlying9 underlying22 underlying5 ?_
 intro q w24 hb_q hb24
 obtain ⟨hS24, hz24, hy24⟩ := zC hS23 hb24
 replace hq := hq.grow hb24
 replace hb_p := hb_p.grow hb24
 refine hK _ _ ?_
 clear hK K
 (try simp only [Act.put, zD, zE, zF])
 refine pP [_] ?_
 refine Wl.step (fun K hK => ?_)
 refine step_enter rfl 304 #[.pointer (some ⟨b, 0, none⟩)] (by kernel_rfl) (HC3.out _ hS24 hq) ?_
 rintro e w25 ⟨rfl, hb25⟩
 refine ⟨_, rfl, ?_⟩
 obtain ⟨hS25, hz25, hy25⟩ := zC hS24 hb25
 replace hq := hq.grow hb25
 replace hb_p := hb_p.grow hb25
 replace hb_q := hb_q.grow hb25
 refine hK _ _ ?_
 clear hK K
 (try simp only [Act.put, zD, zE, zF])
 refine Wl.step (fun K hK => ?_)
 refine step_bytes rfl 9 22 5 _ rfl ds (by kernel_rfl) hdz2 underlying9 underlying22 underlying5 ?_
 intro r w26 hb_r hb26
 obtain ⟨hS26, hz26, hy26⟩ := zC hS25 hb26
 replace hq := hq.grow hb26
 replace hb_p := hb_p.grow hb26
 replace hb_q := hb_q.grow hb26
 refine hK _ _ ?_
 clear hK K
 (try simp only [Act.put, zD, zE, zF])
 refine pQ [_, _, _] ?_
 go_wp2
 go_ret3
 first | exact ⟨_, _, _, rfl, hb_p, hb_q, hb_r, hS26⟩ | exact ⟨_, hb_p, _, hb_q, _, hb_r, hS26⟩ | exact ⟨_, _, _, hb_p, hb_q, hb_r, hS26⟩
theorem ResOut.rs {m : Ms} {w : World} {e : Ending} {w' : World} (h : ResOut m w e w') : ∃ b vals bd, e = .returned (.iface 87 (.pointer (some ⟨b, 0, none⟩))) ∧ RsB w.heap.size w' b vals (hdsOf m) m.compact (.string (mk m.ver)) bd (.string (mk m.reason)) (.int .i64 m.code) ∧ Below w.heap.size w w' := by
 obtain ⟨b, vals, bd, h1, h2, h5⟩ := h
 exact ⟨b, vals, bd, h1, ⟨h2⟩, h5⟩
def dstRes (L : List SH) : ByteArray := match viaS L with
 | some x => hostPortS (hpHost x) (hpPort x (hpP0 x (trVia (viaS L))))
 | none => ⟨#[]⟩
theorem resDest_c (w0 : World) (hE : Env w0) (base : Nat) (w : World) (hw : Below w0.heap.size w0 w) (b : Nat) (vals : List Value) (L : List SH) (cp : Bool) (ver bd reason code : Value) (h : RsB base w b vals L cp ver bd reason code) (hn : NoStray L) (hS : SrcOK L) (htz : (trVia (viaS L)).size ≤ 100000000) :
 Calls Tryz.prog 183 #[.pointer (some ⟨b, 0, none⟩)] w fun e w' => e = .returned (.string (dstRes L)) ∧ Below w.heap.size w w' := by
 cases hv : viaS L with
 | none =>
   have hd : dstRes L = ⟨#[]⟩ := by unfold dstRes; rw [hv]
   rw [hd]
   exact resDest_none base w b vals L cp ver bd reason code h hn hv
 | some x =>
   have hd : dstRes L = hostPortS (hpHost x) (hpPort x (hpP0 x (trVia (viaS L)))) := by unfold dstRes; rw [hv]
   rw [hd]
   obtain ⟨q1, q2, _⟩ := hS.via x hv
   exact resDest_some w0 hE base w hw b vals L cp ver bd reason code h hn x hv q1 htz q2
theorem where_res (w : World) (hE : Env w) (cs : Array Value) (m : Ms) (h : MsR w cs m) (hsm : m.Small) (hg : GoodMs m) (hresp : m.resp = true) (hn : NoStray (hdsOf m)) (hS : SrcOK (hdsOf m)) (htz : (trVia (viaS (hdsOf m))).size ≤ 100000000)  (hsz : ((⟨#[]⟩ : ByteArray)).size ≤ 4000000000) (hdz : ((dstRes (hdsOf m))).size ≤ 4000000000) :
 Calls Tryz.prog 11 #[.agg cs] w fun e w' => ∃ p q r, e = .returned (.tuple #[p, q, r]) ∧ Bs w' p (trVia (viaS (hdsOf m))).data.toList ∧ Bs w' q ((⟨#[]⟩ : ByteArray)).data.toList ∧ Bs w' r ((dstRes (hdsOf m))).data.toList ∧ Below w.heap.size w w' := by
 obtain ⟨W0, hW0⟩ : ∃ W0, W0 = w.alloc (.cells cs 28) := ⟨_, rfl⟩
 have hB0 : Below w.heap.size w W0 := by rw [hW0]; exact below_alloc w _
 have hE0 := hE.mono hB0
 have hmsg := message_res asciiToLower_c cs m W0 (addrAll hE0) (h.grow hB0) hsm hg hresp
 have hmsg := hmsg.mono fun e w' q => q.rs
 have hkc0 : Blk W0 w.heap.size cs 28 := by rw [hW0]; exact Blk.new w cs _
 have HSZ := Lib.hid h.size
 have HMSG := Lib.hid hmsg
 have HN := Lib.hid hn
 have HE := Lib.hid hE
 have HW0 := Lib.hid hW0
 have HTZ := Lib.hid htz
 have HSS := Lib.hid hS
 clear hmsg hn hE hE0 hW0 h hsm hg hresp htz hS
 obtain ⟨tr, htr⟩ : ∃ s, s = trVia (viaS (hdsOf m)) := ⟨_, rfl⟩
 obtain ⟨sr, hsr⟩ : ∃ s, s = (⟨#[]⟩ : ByteArray) := ⟨_, rfl⟩
 obtain ⟨ds, hds⟩ : ∃ s, s = (dstRes (hdsOf m)) := ⟨_, rfl⟩
 rw [← htr] at HTZ ⊢
 rw [← hsr] at hsz ⊢
 rw [← hds] at hdz ⊢
 have HTR := Lib.hid htr
 have HSR := Lib.hid hsr
 have HDS := Lib.hid hds
 clear htr hsr hds
 have htz2 : tr.size ≤ 4611686018427387904 := by have := HTZ.out; omega
 have hsz2 : sr.size ≤ 4611686018427387904 := by omega
 have hdz2 : ds.size ≤ 4611686018427387904 := by omega
 clear hsz hdz
 go_enter func11, ntmps11
 go_upto_region 1 with fail
 rw [← HW0.out]
 clear HW0
 have hs00 := Below.refl W0.heap.size W0
 have hz0 := hB0.size
 go_upto_region 1 with fail
 apply wR
 refine yb (.agg (cs)) hs00 (yA 28 w.heap.size 0 cs underlying28 (infoMs.trans (congrArg some HSZ.out.symm)) (fun w' h => (hkc0.grow h).cells)) ?_
 refine cD func29 HMSG.out ?_
 rintro e w11 ⟨b, vals, bd, rfl, hq, hb11⟩
 refine cR ?_
 obtain ⟨hS11, hz11, hy11⟩ := zC hs00 hb11
 refine pQ [_] ?_
 have hS11 := hB0.trans (hS11.mono hz0)
 have HC1 : Hid (∀ W, Below w.heap.size w W → RsB W0.heap.size W b vals (hdsOf m) m.compact (.string (mk m.ver)) bd (.string (mk m.reason)) (.int .i64 m.code) → Calls Tryz.prog 204 #[.pointer (some ⟨b, 0, none⟩)] W fun e w' => e = .returned (.string tr) ∧ Below W.heap.size W w') := by
  intro W hW hq
  rw [HTR.out]
  exact resTransport_c _ _ b vals _ _ _ bd _ _ hq HN.out
 have HC2 : Hid (∀ W, Below w.heap.size w W → RsB W0.heap.size W b vals (hdsOf m) m.compact (.string (mk m.ver)) bd (.string (mk m.reason)) (.int .i64 m.code) → Calls Tryz.prog 200 #[.pointer (some ⟨b, 0, none⟩)] W fun e w' => e = .returned (.string sr) ∧ Below W.heap.size W w') := by
  intro W hW hq
  rw [HSR.out]
  exact (by obtain ⟨P, hvb⟩ := hq.hs.vb; exact mdSource_c b ⟨#[]⟩ _ (hvb.cell 3 _ rfl))
 have HC3 : Hid (∀ W, Below w.heap.size w W → RsB W0.heap.size W b vals (hdsOf m) m.compact (.string (mk m.ver)) bd (.string (mk m.reason)) (.int .i64 m.code) → Calls Tryz.prog 183 #[.pointer (some ⟨b, 0, none⟩)] W fun e w' => e = .returned (.string ds) ∧ Below W.heap.size W w') := by
  intro W hW hq
  rw [HDS.out]
  exact resDest_c w HE.out _ _ hW b vals _ _ _ bd _ _ hq HN.out HSS.out (by rw [← HTR.out]; exact HTZ.out)
 go_upto_region 2 with fail
 refine pR [_] ?_
 refine Wl.step (fun K hK => ?_)
 refine step_enter rfl 204 #[.pointer (some ⟨b, 0, none⟩)] (by kernel_rfl) (HC1.out _ hS11 hq) ?_
 rintro e w21 ⟨rfl, hb21⟩
 refine ⟨_, rfl, ?_⟩
 obtain ⟨hS21, hz21, hy21⟩ := zC hS11 hb21
 replace hq := hq.grow hb21
 refine hK _ _ ?_
 clear hK K
 (try simp only [Act.put, zD, zE, zF])
 refine Wl.step (fun K hK => ?_)
 refine step_bytes rfl 9 22 5 _ rfl tr (by kernel_rfl) htz2 underlying9 underlying22 underlying5 ?_
 intro p w22 hb_p hb22
 obtain ⟨hS22, hz22, hy22⟩ := zC hS21 hb22
 replace hq := hq.grow hb22
 refine hK _ _ ?_
 clear hK K
 (try simp only [Act.put, zD, zE, zF])
 refine pP [_] ?_
 refine Wl.step (fun K hK => ?_)
 refine step_enter rfl 200 #[.pointer (some ⟨b, 0, none⟩)] (by kernel_rfl) (HC2.out _ hS22 hq) ?_
 rintro e w23 ⟨rfl, hb23⟩
 refine ⟨_, rfl, ?_⟩
 obtain ⟨hS23, hz23, hy23⟩ := zC hS22 hb23
 replace hq := hq.grow hb23
 replace hb_p := hb_p.grow hb23
 refine hK _ _ ?_
 clear hK K
 (try simp only [Act.put, zD, zE, zF])
 refine Wl.step (fun K hK => ?_)
 refine step_bytes rfl 9 22 5 _ rfl sr (by kernel_rfl) hsz2 underlying9 underlying22 underlying5 ?_
 intro q w24 hb_q hb24
 obtain ⟨hS24, hz24, hy24⟩ := zC hS23 hb24
 replace hq := hq.grow hb24
 replace hb_p := hb_p.grow hb24
 refine hK _ _ ?_
 clear hK K
 (try simp only [Act.put, zD, zE, zF])
 refine pP [_] ?_
 refine Wl.step (fun K hK => ?_)
 refine step_enter rfl 183 #[.pointer (some ⟨b, 0, none⟩)] (by kernel_rfl) (HC3.out _ hS24 hq) ?_
 rintro e w25 ⟨rfl, hb25⟩
 refine ⟨_, rfl, ?_⟩
 obtain ⟨hS25, hz25, hy25⟩ := zC hS24 hb25
 replace hq := hq.grow hb25
 replace hb_p := hb_p.grow hb25
 replace hb_q := hb_q.grow hb25
 refine hK _ _ ?_
 clear hK K
 (try simp only [Act.put, zD, zE, zF])
 refine Wl.step (fun K hK => ?_)
 refine step_bytes rfl 9 22 5 _ rfl ds (by kernel_rfl) hdz2 underlying9 underlying22 underlying5 ?_
 intro r w26 hb_r hb26
 obtain ⟨hS26, hz26, hy26⟩ := zC hS25 hb26
 replace hq := hq.grow hb26
 replace hb_p := hb_p.grow hb26
 replace hb_q := hb_q.grow hb26
 refine hK _ _ ?_
 clear hK K
 (try simp only [Act.put, zD, zE, zF])
 refine pQ [_, _, _] ?_
 go_wp2
 go_ret3
 first | exact ⟨_, _, _, rfl, hb_p, hb_q, hb_r, hS26⟩ | exact ⟨_, hb_p, _, hb_q, _, hb_r, hS26⟩ | exact ⟨_, _, _, hb_p, hb_q, hb_r, hS26⟩
end Go.Proofs.YtfcllhdhfenmcaaGreatDoor
