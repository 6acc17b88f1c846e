/- Part 36 of the proof: laws and walks (merged by a program). -/
import Derived.Test.YtfcllhdhfenmcaaGreatDoorK01
import Derived.Test.YtfcllhdhfenmcaaGreatDoorK34
import Derived.Test.YtfcllhdhfenmcaaGreatDoorK35
set_option linter.all false
set_option maxHeartbeats 8000000
set_option maxRecDepth 100000
namespace Go.Proofs.YtfcllhdhfenmcaaGreatDoor
open Go.RowKit Go.Proofs.Tryz
theorem isMsg_at (cs : Array Value) (m : Ms) (w : World) (h : MsR w cs m) (hsm : m.Small) (b : Bool) (hb : isMsgB m = b) :
 Calls Tryz.prog 5 #[.agg cs] w fun e w' => e = .returned (.bool b) ∧ Below w.heap.size w w' := hb ▸ isMsg_c cs m w h hsm
theorem isSingle_at (v : Value) (l : List Hd) (w : World) (h : Hds w v l) (hl : l.length ≤ 1048576) (b : Bool) (hb : isSingleB l = b) :
 Calls Tryz.prog 6 #[v] w fun e w' => e = .returned (.bool b) ∧ Below w.heap.size w w' := hb ▸ isSingle_c v l w h hl
theorem isLoud_at (v : Value) (l : By) (w : World) (h : Bs w v l) (b : Bool) (hb : isLoudB l = b) : Calls Tryz.prog 10 #[v] w fun e w' => e = .returned (.bool b) ∧ Below w.heap.size w w' :=
 (isLoud_c v l w h).mono fun _ _ q => ⟨by rw [q.1, hb], by rw [q.2]; exact Below.refl _ _⟩
theorem eq_same (u v : Value) (a : By) (w : World) (ha : Bs w u a) (hb : Bs w v a) : Calls Tryz.prog 12 #[u, v] w fun e w' => e = .returned (.bool true) ∧ Below w.heap.size w w' :=
 (equal_c u v a a w ha hb).mono fun _ _ q => ⟨by rw [q.1]; unfold equalB; rw [decide_eq_true rfl], by obtain ⟨n, e⟩ := q.2; rw [e]; exact ⟨rfl, rfl, rfl, Nat.le_refl _, fun _ _ => rfl⟩⟩
theorem valueOf_at {v : Value} {l : List KV} {s : ByteArray} {w : World} (h : KVs w v l) (hs : s.size ≤ 4611686018427387904) (b : Bool) (hb : (valueOfL s.data.toList l).isSome = b) :
 Calls Tryz.prog 9 #[v, .string s] w fun e w' => ∃ r, e = .returned (.tuple #[r, .bool b]) ∧ Below w.heap.size w w' :=
 (valueOf_c v l s w h hs).mono fun e w' q => by
  obtain ⟨r, e1, e2, e3⟩ := q
  exact ⟨r, by rw [e1, hb], e3⟩
theorem fnWhere_c (w : World) (hE : Env w) (cs : Array Value) (m : Ms) (h : MsR w cs m) (hsm : m.Small) :
 Calls Tryz.prog 3 #[.agg cs] w fun e w' => e = .returned (.bool true) ∧ Below w.heap.size w w' := by
 have HSM := Lib.hid hsm
 have HE := Lib.hid hE
 have HM := Lib.hid h
 obtain ⟨rsp, hrsp⟩ : ∃ b, b = m.resp := ⟨_, rfl⟩
 have e0 := h.resp
 rw [← hrsp] at e0
 have HRSP := Lib.hid hrsp; clear hrsp
 have E0 := Lib.hid e0; clear e0
 obtain ⟨vH, e15, rH⟩ := h.heads
 obtain ⟨AH, nH, rfl⟩ := rH.shape
 have E15 := Lib.hid e15; clear e15
 have HRH := Lib.hid rH; clear rH
 have HZ := Lib.hid h.size
 have HUL : Hid ((cs.extract 2 12).size = 10) := by unfold Hid; rw [Array.size_extract, h.size]; rfl
 have hlen := hsm.heads.len
 have HLEN := Lib.hid hlen
 clear h hsm hE hlen
 have hs0 := Below.refl w.heap.size w
 go_enter func3, ntmps3
 go_upto_region 0 with fail
 apply wR
 refine cN cs 28 ?_
 intro b1 w1 b1_ge b1_lt k1 hb1
 obtain ⟨hS1, hz1, hy1⟩ := zC hs0 hb1
 refine wP ?_
 refine pQ [_] ?_
 have HX1 : Hid (∀ wr, Below w1.heap.size w1 wr → Blk wr b1 cs 28 ∧ MsR wr cs m ∧ Below w.heap.size w wr) := fun wr hb => ⟨k1.grow hb, HM.out.grow (hS1.trans (hb.mono hz1)), hS1.trans (hb.mono hz1)⟩
 clear k1
 have hs1 := Below.refl w1.heap.size w1
 cases hm : isMsgB m
 ·have HMB := Lib.hid hm; clear hm
  go_upto_region 1 with fail
  apply wR
  refine yb (.agg (cs)) hs1 (yA 28 b1 0 cs underlying28 (infoMs.trans (congrArg some HZ.out.symm)) (fun w' h => (HX1.out w' h).1.cells)) ?_
  refine cC func4 #[.agg (cs)] (zzFits1_c cs m _ (HX1.out _ hs1).2.1 HSM.out) ?_
  rintro e w2 ⟨rfl, hb2⟩
  refine cR ?_
  obtain ⟨hS2, hz2, hy2⟩ := zC hs1 hb2
  refine pQ [.bool false] ?_
  go_upto_region 3 with fail
  apply wR
  refine yb (.agg (cs)) hS2 (yA 28 b1 0 cs underlying28 (infoMs.trans (congrArg some HZ.out.symm)) (fun w' h => (HX1.out w' h).1.cells)) ?_
  refine cC func5 #[.agg (cs)] (isMsg_at cs m _ (HX1.out _ hS2).2.1 HSM.out false HMB.out) ?_
  rintro e w3 ⟨rfl, hb3⟩
  refine cR ?_
  obtain ⟨hS3, hz3, hy3⟩ := zC hS2 hb3
  refine pP [.bool true, _] ?_
  refine Wl.u ?_
  refine Wl.u ?_
  refine Wl.u ?_
  refine Wl.u ?_
  refine pQ [.bool true] ?_
  go_upto_region 4 with fail
  apply wR
  refine cC func7 #[] (known_c w HE.out _ ((HX1.out _ hS3).2.2)) ?_
  rintro e w4 ⟨rfl, hb4⟩
  refine cR ?_
  obtain ⟨hS4, hz4, hy4⟩ := zC hS3 hb4
  refine pQ [_] ?_
  go_wp2
  go_ret
  exact ⟨rfl, (HX1.out _ hS4).2.2⟩
 have HMB := Lib.hid hm; clear hm
 cases hs : isSingleB m.heads
 ·have HSB := Lib.hid hs; clear hs
  go_upto_region 1 with fail
  apply wR
  refine yb (.agg (cs)) hs1 (yA 28 b1 0 cs underlying28 (infoMs.trans (congrArg some HZ.out.symm)) (fun w' h => (HX1.out w' h).1.cells)) ?_
  refine cC func4 #[.agg (cs)] (zzFits1_c cs m _ (HX1.out _ hs1).2.1 HSM.out) ?_
  rintro e w2 ⟨rfl, hb2⟩
  refine cR ?_
  obtain ⟨hS2, hz2, hy2⟩ := zC hs1 hb2
  refine pQ [.bool false] ?_
  go_upto_region 3 with fail
  apply wR
  refine yb (.agg (cs)) hS2 (yA 28 b1 0 cs underlying28 (infoMs.trans (congrArg some HZ.out.symm)) (fun w' h => (HX1.out w' h).1.cells)) ?_
  refine cC func5 #[.agg (cs)] (isMsg_at cs m _ (HX1.out _ hS2).2.1 HSM.out true HMB.out) ?_
  rintro e w3 ⟨rfl, hb3⟩
  refine cR ?_
  obtain ⟨hS3, hz3, hy3⟩ := zC hS2 hb3
  refine pP [.bool false, _, .pointer (some ⟨b1, 15, none⟩)] ?_
  refine Wl.ld (v := .slice AH m.heads.length nH) ((HX1.out _ hS3).1.cell 15 _ E15.out) underlying26 ?_
  refine Wl.step (fun K hK => ?_)
  refine sW func6 #[.slice AH m.heads.length nH] (isSingle_at _ m.heads _ (HRH.out.grow (HX1.out _ hS3).2.2) HLEN.out false HSB.out) ?_
  rintro e w4 ⟨rfl, hb4⟩
  refine ⟨_, rfl, ?_⟩
  obtain ⟨hS4, hz4, hy4⟩ := zC hS3 hb4
  refine hK _ _ ?_
  clear hK K
  (try simp only [Act.put, zD, zE, zF])
  refine pQ [.bool true, .bool true] ?_
  go_upto_region 4 with fail
  apply wR
  refine cC func7 #[] (known_c w HE.out _ ((HX1.out _ hS4).2.2)) ?_
  rintro e w5 ⟨rfl, hb5⟩
  refine cR ?_
  obtain ⟨hS5, hz5, hy5⟩ := zC hS4 hb5
  refine pQ [_] ?_
  go_wp2
  go_ret
  exact ⟨rfl, (HX1.out _ hS5).2.2⟩
 have HSB := Lib.hid hs; clear hs
 have HR := Lib.hid (right_of HMB.out)
 obtain ⟨via, hvia⟩ : ∃ v, v = fHd 9 m.heads := ⟨_, rfl⟩
 obtain ⟨n9, hn9⟩ : ∃ n, n = nHd 9 m.heads := ⟨_, rfl⟩
 have hn9l : n9 ≤ 1048576 := by rw [hn9]; exact Nat.le_trans (nHd_le _ _) HLEN.out
 have HF := Lib.hid (fun wr (hb : Below w.heap.size w wr) => firsts_c _ m.heads 9 wr (HRH.out.grow hb) HLEN.out)
 rw [← hvia, ← hn9] at HF
 obtain ⟨bl, hbl⟩ : ∃ b, b = byV m := ⟨_, rfl⟩
 have hbll : bl.length ≤ 8192 := by rw [hbl]; exact byV_len HR.out HSB.out
 have HBL : Hid (bl = if 0 < n9 then via.tr else udpB) := by unfold Hid; rw [hbl, hn9, hvia]; rfl
 have HVH : Hid (via.host.length ≤ 1048576) := by unfold Hid; rw [hvia]; exact (fst_small 9 HSM.out.heads).1
 have HVIA := Lib.hid hvia; clear hvia
 have HN9 := Lib.hid hn9; clear hn9
 have HBLE := Lib.hid hbl; clear hbl
 go_upto_region 1 with fail
 apply wR
 refine yb (.agg (cs)) hs1 (yA 28 b1 0 cs underlying28 (infoMs.trans (congrArg some HZ.out.symm)) (fun w' h => (HX1.out w' h).1.cells)) ?_
 refine cC func4 #[.agg (cs)] (zzFits1_c cs m _ (HX1.out _ hs1).2.1 HSM.out) ?_
 rintro e w2 ⟨rfl, hb2⟩
 refine cR ?_
 obtain ⟨hS2, hz2, hy2⟩ := zC hs1 hb2
 refine pQ [.bool false] ?_
 go_upto_region 3 with fail
 apply wR
 refine yb (.agg (cs)) hS2 (yA 28 b1 0 cs underlying28 (infoMs.trans (congrArg some HZ.out.symm)) (fun w' h => (HX1.out w' h).1.cells)) ?_
 refine cC func5 #[.agg (cs)] (isMsg_at cs m _ (HX1.out _ hS2).2.1 HSM.out true HMB.out) ?_
 rintro e w3 ⟨rfl, hb3⟩
 refine cR ?_
 obtain ⟨hS3, hz3, hy3⟩ := zC hS2 hb3
 refine pP [.bool false, _, .pointer (some ⟨b1, 15, none⟩)] ?_
 refine Wl.ld (v := .slice AH m.heads.length nH) ((HX1.out _ hS3).1.cell 15 _ E15.out) underlying26 ?_
 refine Wl.step (fun K hK => ?_)
 refine sW func6 #[.slice AH m.heads.length nH] (isSingle_at _ m.heads _ (HRH.out.grow (HX1.out _ hS3).2.2) HLEN.out true HSB.out) ?_
 rintro e w4 ⟨rfl, hb4⟩
 refine ⟨_, rfl, ?_⟩
 obtain ⟨hS4, hz4, hy4⟩ := zC hS3 hb4
 refine hK _ _ ?_
 clear hK K
 (try simp only [Act.put, zD, zE, zF])
 refine pQ [.bool false, .bool false] ?_
 go_upto_region 5 with fail
 refine pR [.pointer (some ⟨b1, 15, none⟩)] ?_
 refine Wl.ld (v := .slice AH m.heads.length nH) ((HX1.out _ hS4).1.cell 15 _ E15.out) underlying26 ?_
 refine cC func8 #[.slice AH m.heads.length nH, .int .i64 9] (HF.out _ (HX1.out _ hS4).2.2) ?_
 rintro e w5 ⟨ds, rfl, hd, hb5⟩
 refine cR ?_
 obtain ⟨hS5, hz5, hy5⟩ := zC hS4 hb5
 obtain ⟨A1, c1, A2, c2, A3, c3, A4, c4, A5, c5, A8, c8, A9, c9, A10, c10, A12, c12, A13, c13, A14, c14, A16, c16, A17, c17, A18, c18, A19, c19, rfl⟩ := hd.lit
 refine pP [_, .int .i64 (n9 : Nat), .agg #[.int .i64 via.t, .slice A1 via.name.length c1, .slice A2 via.text.length c2, .slice A3 via.disp.length c3, .slice A4 via.uri.scheme.length c4, .slice A5 via.uri.raw.length c5, .bool via.uri.star, .bool via.uri.slashes, .slice A8 via.uri.user.length c8, .slice A9 via.uri.pass.length c9, .slice A10 via.uri.host.length c10, .int .i64 via.uri.port, .slice A12 via.uri.ps.length c12, .slice A13 via.uri.hs.length c13, .slice A14 via.ps.length c14, .int .u32 via.num, .slice A16 via.proto.length c16, .slice A17 via.ver.length c17, .slice A18 via.tr.length c18, .slice A19 via.host.length c19, .int .i64 via.port]] ?_
 refine cN #[.int .i64 0, .slice none 0 0, .slice none 0 0, .slice none 0 0, .slice none 0 0, .slice none 0 0, .bool false, .bool false, .slice none 0 0, .slice none 0 0, .slice none 0 0, .int .i64 0, .slice none 0 0, .slice none 0 0, .slice none 0 0, .int .u32 0, .slice none 0 0, .slice none 0 0, .slice none 0 0, .slice none 0 0, .int .i64 0] 34 ?_
 intro b4 w6 b4_ge b4_lt k4 hb6
 obtain ⟨hS6, hz6, hy6⟩ := zC hS5 hb6
 refine wP ?_
 refine pP [_] ?_
 refine cB 34 b4 0 [.int .i64 via.t, .slice A1 via.name.length c1, .slice A2 via.text.length c2, .slice A3 via.disp.length c3, .slice A4 via.uri.scheme.length c4, .slice A5 via.uri.raw.length c5, .bool via.uri.star, .bool via.uri.slashes, .slice A8 via.uri.user.length c8, .slice A9 via.uri.pass.length c9, .slice A10 via.uri.host.length c10, .int .i64 via.uri.port, .slice A12 via.uri.ps.length c12, .slice A13 via.uri.hs.length c13, .slice A14 via.ps.length c14, .int .u32 via.num, .slice A16 via.proto.length c16, .slice A17 via.ver.length c17, .slice A18 via.tr.length c18, .slice A19 via.host.length c19, .int .i64 via.port] 34 k4 ?_
 intro w7 k4' hO7
 have hS7 := hS6.trans (hO7.below (by omega))
 have hz7 := hS7.size
 clear k4
 have k4 := k4'
 clear k4'
 have hzz7 := hO7.size
 replace hO7 := Lib.hid hO7
 refine wN ?_
 have hvR := hd.grow (hb6.trans (hO7.out.below b4_ge))
 have HX7 : Hid (∀ wr, Below w7.heap.size w7 wr → Blk wr b1 cs 28 ∧ MsR wr cs m ∧ Below w.heap.size w wr) := fun wr hb => HX1.out wr (hS7.trans (hb.mono hz7))
 have HV7 := Lib.hid hvR
 have hs7 := Below.refl w7.heap.size w7
 clear hd hvR hS1 hS2 hS3 hS4 hS5 hS6 hs0 hs1 hb1 hb2 hb3 hb4 hb5 hb6 hO7
 have hvps : KVs w7 (.slice A14 via.ps.length c14) via.ps := by obtain ⟨v, e, r⟩ := HV7.out.ps; cases e; exact r
 have HPS := Lib.hid hvps; clear hvps
 obtain ⟨o1, ho1⟩ : ∃ o, o = (valueOfL rcvB via.ps).isSome := ⟨_, rfl⟩
 obtain ⟨o2, ho2⟩ : ∃ o, o = (valueOfL rptB via.ps).isSome := ⟨_, rfl⟩
 have HO1 := Lib.hid ho1; clear ho1
 have HO2 := Lib.hid ho2; clear ho2
 go_upto_region 6 with fail
 refine pR [.pointer (some ⟨b4, 14, none⟩)] ?_
 refine Wl.ld (k4.cell 14 (.slice A14 via.ps.length c14) (by kernel_rfl)) underlying23 ?_
 refine cC func9 #[.slice A14 via.ps.length c14, .string ⟨#[114, 101, 99, 101, 105, 118, 101, 100]⟩] (valueOf_at (HPS.out.grow hs7) (by decide) o1 HO1.out.symm) ?_
 rintro e w8 ⟨r5, rfl, hb8⟩
 refine cR ?_
 obtain ⟨hS8, hz8, hy8⟩ := zC hs7 hb8
 replace k4 := k4.grow hb8
 refine pQ [_, r5, .bool o1, _, _] ?_
 go_upto_region 7 with fail
 refine pR [.pointer (some ⟨b4, 14, none⟩)] ?_
 refine Wl.ld (k4.cell 14 (.slice A14 via.ps.length c14) (by kernel_rfl)) underlying23 ?_
 refine cC func9 #[.slice A14 via.ps.length c14, .string ⟨#[114, 112, 111, 114, 116]⟩] (valueOf_at (HPS.out.grow hS8) (by decide) o2 HO2.out.symm) ?_
 rintro e w9 ⟨r7, rfl, hb9⟩
 refine cR ?_
 obtain ⟨hS9, hz9, hy9⟩ := zC hS8 hb9
 replace k4 := k4.grow hb9
 refine pQ [_, r7, .bool o2, _, _] ?_
 go_upto_region 8 with fail
 apply wR
 refine Wl.step (fun K hK => ?_)
 refine step_new rfl (fun b => .slice (some ⟨b, 0, none⟩) 3 3) (#[.int .u8 85, .int .u8 68, .int .u8 80]) 5 (by kernel_rfl) ?_
 intro b49 w10 b49_ge b49_lt k49 hb10
 obtain ⟨hS10, hz10, hy10⟩ := zC hS9 hb10
 replace k4 := k4.grow hb10
 refine hK _ _ ?_
 clear hK K
 (try simp only [Act.put, zD, zE, zF])
 refine Wl.step (fun K hK => ?_)
 refine step_const rfl 22 5 _ rfl b49 3 3 _ (by kernel_rfl) underlying22 underlying5 k49 ?_
 intro w11 hOc hc49
 have hS11 : Below w7.heap.size w7 w11 := hS10.trans (hOc.below (by omega))
 replace k4 := k4.oth hOc (by omega)
 clear k49
 refine hK _ _ ?_
 clear hK K
 (try simp only [Act.put, zD, zE, zF])
 refine pQ [_] ?_
 have hz11 := hS11.size
 go_step
 go_step
 go_step
 go_cut [9] from 51 (fun v9 wx => ∃ A c, v9 = .slice A bl.length c ∧ Bs wx (.slice A bl.length c) bl ∧ Blk wx b4 #[.int .i64 via.t, .slice A1 via.name.length c1, .slice A2 via.text.length c2, .slice A3 via.disp.length c3, .slice A4 via.uri.scheme.length c4, .slice A5 via.uri.raw.length c5, .bool via.uri.star, .bool via.uri.slashes, .slice A8 via.uri.user.length c8, .slice A9 via.uri.pass.length c9, .slice A10 via.uri.host.length c10, .int .i64 via.uri.port, .slice A12 via.uri.ps.length c12, .slice A13 via.uri.hs.length c13, .slice A14 via.ps.length c14, .int .u32 via.num, .slice A16 via.proto.length c16, .slice A17 via.ver.length c17, .slice A18 via.tr.length c18, .slice A19 via.host.length c19, .int .i64 via.port] 34 ∧ Below w7.heap.size w7 wx)
 case first =>
  by_cases h9 : 0 < n9
  ·have e : bl = via.tr := by rw [HBL.out, if_pos h9]
   have hvtr : Bs w7 (.slice A18 via.tr.length c18) via.tr := by obtain ⟨v, e, r⟩ := HV7.out.tr; cases e; exact r
   clear HBL
   subst e
   go_upto_region 9 with fail
   refine pR [_] ?_
   refine igT .i64 (n9 : Nat) 0 ?_
   refine wN ?_
   go_upto_region 10 with fail
   refine pR [.pointer (some ⟨b4, 18, none⟩)] ?_
   refine Wl.ld (k4.cell 18 (.slice A18 via.tr.length c18) (by kernel_rfl)) underlying22 ?_
   refine pQ [_] ?_
   go_wp2_with fail
   go_meet
   case rel => exact ⟨A18, c18, rfl, hvtr.grow hS11, k4, hS11⟩
  ·have e : bl = udpB := by rw [HBL.out, if_neg h9]
   clear HBL
   subst e
   go_upto_region 9 with fail
   refine pR [_] ?_
   refine igF .i64 (n9 : Nat) 0 ?_
   refine wN ?_
   go_wp2_with fail
   go_meet
   case rel => exact ⟨some ⟨b49, 0, none⟩, 3, rfl, bs_row' udpB rfl hc49 (by decide), k4, hS11⟩
 case rest =>
  obtain ⟨Ab, cb, rfl, hby, k4, hBc⟩ := hcut
  clear hc49 hOc
  have HXc : Hid (∀ wr, Below wc.heap.size wc wr → Blk wr b1 cs 28 ∧ MsR wr cs m ∧ Below w.heap.size w wr) := fun wr hb => HX7.out wr (hBc.trans (hb.mono hBc.size))
  have hsc := Below.refl wc.heap.size wc
  have HBY := Lib.hid hby
  clear hby hS11 hS10 hS9 hS8 hS7
  cases o1
  case true =>
   go_upto_region 11 with fail
   refine pR [_, _] ?_
   refine Wl.u ?_
   refine pP [.bool true, _] ?_
   refine Wl.u ?_
   refine Wl.u ?_
   refine Wl.u ?_
   refine pQ [.bool true] ?_
   go_upto_region 12 with fail
   apply wR
   refine cC func7 #[] (known_c w HE.out _ ((HXc.out _ hsc).2.2)) ?_
   rintro e w21 ⟨rfl, hb21⟩
   refine cR ?_
   obtain ⟨hS21, hz21, hy21⟩ := zC hsc hb21
   refine pQ [_] ?_
   go_wp2
   go_ret
   exact ⟨rfl, (HXc.out _ hS21).2.2⟩
  cases o2
  case false.true =>
   go_upto_region 11 with fail
   refine pR [_, _, _, .bool true, _] ?_
   refine Wl.u ?_
   refine Wl.u ?_
   refine Wl.u ?_
   refine pQ [.bool true] ?_
   go_upto_region 12 with fail
   apply wR
   refine cC func7 #[] (known_c w HE.out _ ((HXc.out _ hsc).2.2)) ?_
   rintro e w21 ⟨rfl, hb21⟩
   refine cR ?_
   obtain ⟨hS21, hz21, hy21⟩ := zC hsc hb21
   refine pQ [_] ?_
   go_wp2
   go_ret
   exact ⟨rfl, (HXc.out _ hS21).2.2⟩
  cases hlo : isLoudB bl
  case false.false.false =>
   have HLO := Lib.hid hlo; clear hlo
   go_upto_region 11 with fail
   refine pR [_, _, _, .bool false, _, _] ?_
   refine Wl.step (fun K hK => ?_)
   refine sW func10 #[.slice Ab bl.length cb] (isLoud_at _ bl _ (HBY.out.grow hsc) false HLO.out) ?_
   rintro e w21 ⟨rfl, hb21⟩
   refine ⟨_, rfl, ?_⟩
   obtain ⟨hS21, hz21, hy21⟩ := zC hsc hb21
   refine hK _ _ ?_
   clear hK K
   (try simp only [Act.put, zD, zE, zF])
   refine pQ [.bool true, .bool true] ?_
   go_upto_region 12 with fail
   apply wR
   refine cC func7 #[] (known_c w HE.out _ ((HXc.out _ hS21).2.2)) ?_
   rintro e w22 ⟨rfl, hb22⟩
   refine cR ?_
   obtain ⟨hS22, hz22, hy22⟩ := zC hS21 hb22
   refine pQ [_] ?_
   go_wp2
   go_ret
   exact ⟨rfl, (HXc.out _ hS22).2.2⟩
  have HLO := Lib.hid hlo; clear hlo
  have hv1 : valueOfL rcvB (fHd 9 m.heads).ps = none := by
   rw [← HVIA.out]
   cases hq : valueOfL rcvB via.ps with
   | none => rfl
   | some x => have := HO1.out; rw [hq] at this; cases this
  have hv2 : valueOfL rptB (fHd 9 m.heads).ps = none := by
   rw [← HVIA.out]
   cases hq : valueOfL rptB via.ps with
   | none => rfl
   | some x => have := HO2.out; rw [hq] at this; cases this
  have hvh : Bs w7 (.slice A19 via.host.length c19) via.host := by obtain ⟨v, e, r⟩ := HV7.out.host; cases e; exact r
  have HVB := Lib.hid (hvh.grow hBc); clear hvh
  have HPO := Lib.hid (show -9223372036854775808 ≤ via.port ∧ via.port ≤ 9223372036854775807 from ⟨HV7.out.portLo, HV7.out.portHi⟩)
  cases rsp
  case true =>
   have hwr := Lib.hid (fun wr (hb : Below wc.heap.size wc wr) => where_res' wr (HE.out.mono (HXc.out wr hb).2.2) cs m (HXc.out wr hb).2.1 HSM.out HR.out HSB.out HRSP.out.symm hv1 hv2)
   rw [← HN9.out, ← HBLE.out, ← HVIA.out] at hwr
   by_cases h9 : 0 < n9
   ·rw [if_pos h9] at hwr
    obtain ⟨lr, hlr⟩ : ∃ n, n = (reachedL via.host via.port bl).length := ⟨_, rfl⟩
    have HLR := Lib.hid hlr; clear hlr
    go_upto_region 11 with fail
    refine pR [_, _, _, .bool false, _, _] ?_
    refine Wl.step (fun K hK => ?_)
    refine sW func10 #[.slice Ab bl.length cb] (isLoud_at _ bl _ (HBY.out.grow hsc) true HLO.out) ?_
    rintro e w21 ⟨rfl, hb21⟩
    refine ⟨_, rfl, ?_⟩
    obtain ⟨hS21, hz21, hy21⟩ := zC hsc hb21
    replace k4 := k4.grow hb21
    refine hK _ _ ?_
    clear hK K
    (try simp only [Act.put, zD, zE, zF])
    refine pQ [.bool false, .bool false] ?_
    go_upto_region 13 with fail
    apply wR
    refine yb (.agg (cs)) hS21 (yA 28 b1 0 cs underlying28 (infoMs.trans (congrArg some HZ.out.symm)) (fun w' h => (HXc.out w' h).1.cells)) ?_
    refine cC func11 #[.agg cs] (hwr.out _ hS21) ?_
    rintro e w22 ⟨p, q, r, rfl, hp, hq, hr, hb22⟩
    refine cR ?_
    obtain ⟨Ap, cp, rfl⟩ := hp.shape
    obtain ⟨Aq, cq, rfl⟩ := hq.shape
    obtain ⟨Ar, cr, rfl⟩ := hr.shape
    obtain ⟨hS22, hz22, hy22⟩ := zC hS21 hb22
    replace k4 := k4.grow hb22
    refine pQ [_, .slice Ap bl.length cp, .slice Aq 0 cq, .slice Ar (reachedL via.host via.port bl).length cr, _, _, _] ?_
    go_upto_region 14 with fail
    refine pR [.pointer (some ⟨b1, 0, none⟩)] ?_
    refine Wl.ld (v := .bool true) ((HXc.out _ hS22).1.cell 0 _ E0.out) underlying4 ?_
    refine wN ?_
    go_upto_region 15 with fail
    refine pR [_] ?_
    refine ieF .i64 (n9 : Nat) 0 ?_
    refine wN ?_
    go_upto_region 17 with fail
    refine pR [_, _] ?_
    refine cC func12 #[.slice Ap bl.length cp, .slice Ab bl.length cb] (eq_same _ _ bl _ hp (HBY.out.grow hS22)) ?_
    rintro e w23 ⟨rfl, hb23⟩
    refine cR ?_
    obtain ⟨hS23, hz23, hy23⟩ := zC hS22 hb23
    replace hp := hp.grow hb23
    replace hq := hq.grow hb23
    replace hr := hr.grow hb23
    replace k4 := k4.grow hb23
    refine pP [_, _, .int .i64 0, .bool true, .bool true, _, _, .pointer (some ⟨b4, 19, none⟩)] ?_
    refine Wl.ld (k4.cell 19 (.slice A19 via.host.length c19) (by kernel_rfl)) underlying22 ?_
    refine pP [.pointer (some ⟨b4, 20, none⟩)] ?_
    refine Wl.ld (k4.cell 20 (.int .i64 via.port) (by kernel_rfl)) underlying3 ?_
    refine pP [_] ?_
    refine Wl.step (fun K hK => ?_)
    refine sW func13 #[.slice A19 via.host.length c19, .int .i64 via.port, .slice Ab bl.length cb] (reached_c _ _ via.host bl via.port _ (HVB.out.grow hS23) (HBY.out.grow hS23) (by have := HVH.out; omega) (by omega) HPO.out.1 HPO.out.2) ?_
    rintro e w24 ⟨z, rfl, hzz, hb24⟩
    refine ⟨_, rfl, ?_⟩
    obtain ⟨hS24, hz24, hy24⟩ := zC hS23 hb24
    replace hp := hp.grow hb24
    replace hq := hq.grow hb24
    replace hr := hr.grow hb24
    replace k4 := k4.grow hb24
    obtain ⟨Az, cz, rfl⟩ := hzz.shape
    refine hK _ _ ?_
    clear hK K
    (try simp only [Act.put, zD, zE, zF])
    refine Wl.step (fun K hK => ?_)
    refine sW func12 #[.slice Ar (reachedL via.host via.port bl).length cr, .slice Az (reachedL via.host via.port bl).length cz] (eq_same _ _ (reachedL via.host via.port bl) _ hr hzz) ?_
    rintro e w25 ⟨rfl, hb25⟩
    refine ⟨_, rfl, ?_⟩
    obtain ⟨hS25, hz25, hy25⟩ := zC hS24 hb25
    replace hp := hp.grow hb25
    replace hq := hq.grow hb25
    replace hr := hr.grow hb25
    replace hzz := hzz.grow hb25
    replace k4 := k4.grow hb25
    refine hK _ _ ?_
    clear hK K
    (try simp only [Act.put, zD, zE, zF])
    refine pP [.bool true, _] ?_
    refine Wl.step (fun K hK => ?_)
    refine sW func7 #[] (known_c w HE.out _ ((HXc.out _ hS25).2.2)) ?_
    rintro e w26 ⟨rfl, hb26⟩
    refine ⟨_, rfl, ?_⟩
    obtain ⟨hS26, hz26, hy26⟩ := zC hS25 hb26
    replace hp := hp.grow hb26
    replace hq := hq.grow hb26
    replace hr := hr.grow hb26
    replace hzz := hzz.grow hb26
    replace k4 := k4.grow hb26
    refine hK _ _ ?_
    clear hK K
    (try simp only [Act.put, zD, zE, zF])
    refine pQ [.bool true, _] ?_
    go_wp2
    go_ret
    exact ⟨rfl, (HXc.out _ hS26).2.2⟩
   ·rw [if_neg h9] at hwr
    go_upto_region 11 with fail
    refine pR [_, _, _, .bool false, _, _] ?_
    refine Wl.step (fun K hK => ?_)
    refine sW func10 #[.slice Ab bl.length cb] (isLoud_at _ bl _ (HBY.out.grow hsc) true HLO.out) ?_
    rintro e w21 ⟨rfl, hb21⟩
    refine ⟨_, rfl, ?_⟩
    obtain ⟨hS21, hz21, hy21⟩ := zC hsc hb21
    replace k4 := k4.grow hb21
    refine hK _ _ ?_
    clear hK K
    (try simp only [Act.put, zD, zE, zF])
    refine pQ [.bool false, .bool false] ?_
    go_upto_region 13 with fail
    apply wR
    refine yb (.agg (cs)) hS21 (yA 28 b1 0 cs underlying28 (infoMs.trans (congrArg some HZ.out.symm)) (fun w' h => (HXc.out w' h).1.cells)) ?_
    refine cC func11 #[.agg cs] (hwr.out _ hS21) ?_
    rintro e w22 ⟨p, q, r, rfl, hp, hq, hr, hb22⟩
    refine cR ?_
    obtain ⟨Ap, cp, rfl⟩ := hp.shape
    obtain ⟨Aq, cq, rfl⟩ := hq.shape
    obtain ⟨Ar, cr, rfl⟩ := hr.shape
    obtain ⟨hS22, hz22, hy22⟩ := zC hS21 hb22
    replace k4 := k4.grow hb22
    refine pQ [_, .slice Ap bl.length cp, .slice Aq 0 cq, .slice Ar 0 cr, _, _, _] ?_
    go_upto_region 14 with fail
    refine pR [.pointer (some ⟨b1, 0, none⟩)] ?_
    refine Wl.ld (v := .bool true) ((HXc.out _ hS22).1.cell 0 _ E0.out) underlying4 ?_
    refine wN ?_
    go_upto_region 15 with fail
    refine pR [_] ?_
    refine ieT .i64 (n9 : Nat) 0 ?_
    refine wN ?_
    go_upto_region 16 with fail
    refine pR [_, _] ?_
    refine cC func12 #[.slice Ap bl.length cp, .slice Ab bl.length cb] (eq_same _ _ bl _ hp (HBY.out.grow hS22)) ?_
    rintro e w23 ⟨rfl, hb23⟩
    refine cR ?_
    obtain ⟨hS23, hz23, hy23⟩ := zC hS22 hb23
    replace hp := hp.grow hb23
    replace hq := hq.grow hb23
    replace hr := hr.grow hb23
    replace k4 := k4.grow hb23
    refine pP [_, _, .int .i64 0, .bool true, .bool true, _, _, .int .i64 0, .bool true, .bool true, _] ?_
    refine Wl.step (fun K hK => ?_)
    refine sW func7 #[] (known_c w HE.out _ ((HXc.out _ hS23).2.2)) ?_
    rintro e w24 ⟨rfl, hb24⟩
    refine ⟨_, rfl, ?_⟩
    obtain ⟨hS24, hz24, hy24⟩ := zC hS23 hb24
    replace hp := hp.grow hb24
    replace hq := hq.grow hb24
    replace hr := hr.grow hb24
    replace k4 := k4.grow hb24
    refine hK _ _ ?_
    clear hK K
    (try simp only [Act.put, zD, zE, zF])
    refine pQ [.bool true, _] ?_
    go_wp2
    go_ret
    exact ⟨rfl, (HXc.out _ hS24).2.2⟩
  obtain ⟨U, hU⟩ : ∃ U, U = uriW m := ⟨_, rfl⟩
  obtain ⟨sb, hsb⟩ : ∃ s, s = securedL U bl := ⟨_, rfl⟩
  obtain ⟨rb, hrb⟩ : ∃ s, s = reachedL U.host U.port sb := ⟨_, rfl⟩
  have hwr := Lib.hid (fun wr (hb : Below wc.heap.size wc wr) => where_req' wr (HE.out.mono (HXc.out wr hb).2.2) cs m (HXc.out wr hb).2.1 HSM.out HR.out HSB.out HRSP.out.symm hv1 hv2)
  have hUR := uriW_R HR.out HSB.out HRSP.out.symm
  rw [← HN9.out, ← HBLE.out, ← HVIA.out, ← hU, ← hsb, ← hrb] at hwr
  rw [← hU] at hUR
  have HUR := Lib.hid hUR; clear hUR
  have hsbl : sb.length ≤ 8192 := by rw [hsb]; exact sec_len (by_len HUR.out.ps hbll)
  have hUhl : U.host.length ≤ 8192 := host_len HUR.out.host
  have hUpo := HUR.out.port
  obtain ⟨rt, hrt⟩ : ∃ v, v = fHd 11 m.heads := ⟨_, rfl⟩
  obtain ⟨n11, hn11⟩ : ∃ n, n = nHd 11 m.heads := ⟨_, rfl⟩
  have hn11l : n11 ≤ 1048576 := by rw [hn11]; exact Nat.le_trans (nHd_le _ _) HLEN.out
  have HUe : Hid (U = if 0 < n11 then rt.uri else m.uri) := by unfold Hid; rw [hU, hn11, hrt]; rfl
  have HUs : Hid U.Small := by
   rw [HUe.out]
   unfold Hid
   split
   ·rw [hrt]; exact (fst_small 11 HSM.out.heads).2.2
   ·exact HSM.out.uri
  have HF11 := Lib.hid (fun (p0 : Nat → Prop) wr (hb : Below w.heap.size w wr) (hp : ∀ k, p0 k → w.heap.size ≤ k ∧ k < wr.heap.size) => firsts_x p0 _ m.heads 11 w wr hb HRH.out hp HLEN.out)
  rw [← hrt, ← hn11] at HF11
  have HSBE := Lib.hid hsb; clear hsb
  have HUW := Lib.hid hU
  have HRBE := Lib.hid hrb; clear hrb
  clear hU hrt hn11 hv1 hv2
  obtain ⟨uF0, um0, uf0, uF1, um1, uf1, ufs, ufl, uF4, um4, uf4, uF5, um5, uf5, uF6, um6, uf6, ufp, uF8, um8, uf8, uF9, um9, uf9, hulit⟩ := HM.out.uri.lit
  have HMU := Lib.hid (hulit ▸ HM.out.uri)
  have HCU : Hid (∀ w', Blk w' b1 cs 28 → ∀ j v, (#[.slice uF0 um0 uf0, .slice uF1 um1 uf1, .bool ufs, .bool ufl, .slice uF4 um4 uf4, .slice uF5 um5 uf5, .slice uF6 um6 uf6, .int .i64 ufp, .slice uF8 um8 uf8, .slice uF9 um9 uf9] : Array Value)[j]? = some v → w'.cell? ⟨b1, 2 + j, none⟩ = some v) := fun w' hb => by
   rw [← hulit]
   exact CellsAt.part (fun j v hj => hb.cells j v hj) 2 12 (by rw [HZ.out]; omega)
  clear hulit
  have hvh0 := HVB.out
  go_upto_region 11 with fail
  refine pR [_, _, _, .bool false, _, _] ?_
  refine Wl.step (fun K hK => ?_)
  refine sW func10 #[.slice Ab bl.length cb] (isLoud_at _ bl _ (HBY.out.grow hsc) true HLO.out) ?_
  rintro e w21 ⟨rfl, hb21⟩
  refine ⟨_, rfl, ?_⟩
  obtain ⟨hS21, hz21, hy21⟩ := zC hsc hb21
  replace k4 := k4.grow hb21
  refine hK _ _ ?_
  clear hK K
  (try simp only [Act.put, zD, zE, zF])
  refine pQ [.bool false, .bool false] ?_
  go_upto_region 13 with fail
  apply wR
  refine yb (.agg (cs)) hS21 (yA 28 b1 0 cs underlying28 (infoMs.trans (congrArg some HZ.out.symm)) (fun w' h => (HXc.out w' h).1.cells)) ?_
  refine cC func11 #[.agg cs] (hwr.out _ hS21) ?_
  rintro e w22 ⟨p, q, r, sl, rfl, hp, hq, hsl, hr, hb22⟩
  refine cR ?_
  obtain ⟨Ap, cp, rfl⟩ := hp.shape
  obtain ⟨Aq, cq, rfl⟩ := hq.shape
  obtain ⟨Ar, cr, rfl⟩ := hr.shape
  obtain ⟨hS22, hz22, hy22⟩ := zC hS21 hb22
  replace k4 := k4.grow hb22
  refine pQ [_, .slice Ap sb.length cp, .slice Aq sl.length cq, .slice Ar rb.length cr, _, _, _] ?_
  have hz22 := hS22.size
  have HW : Hid (∀ wr, Below w22.heap.size w22 wr → Blk wr b1 cs 28 ∧ Below w.heap.size w wr ∧ Bs wr (.slice Ap sb.length cp) sb ∧ Bs wr (.slice Aq sl.length cq) sl ∧ Bs wr (.slice Ar rb.length cr) rb ∧ Bs wr (.slice Ab bl.length cb) bl ∧ Bs wr (.slice A19 via.host.length c19) via.host) := fun wr hb =>
   have hc := hS22.trans (hb.mono hz22)
   ⟨(HXc.out wr hc).1, (HXc.out wr hc).2.2, hp.grow hb, hq.grow hb, hr.grow hb, HBY.out.grow hc, HVB.out.grow hc⟩
  have HK4 := Lib.hid k4
  have HSL := Lib.hid hsl
  have hwz : w.heap.size ≤ w22.heap.size := (HW.out w22 (Below.refl _ _)).2.1.size
  have hs22 := Below.refl w22.heap.size w22
  clear hp hq hr hsl k4 hwr hvh0 hS22 hS21 hsc hb21 hb22
  go_upto_region 14 with fail
  refine pR [.pointer (some ⟨b1, 0, none⟩)] ?_
  refine Wl.ld (v := .bool false) ((HW.out _ hs22).1.cell 0 _ E0.out) underlying4 ?_
  refine wN ?_
  go_upto_region 18 with fail
  refine pR [.pointer (some ⟨b1, 2, none⟩)] ?_
  refine yb (.agg #[.slice uF0 um0 uf0, .slice uF1 um1 uf1, .bool ufs, .bool ufl, .slice uF4 um4 uf4, .slice uF5 um5 uf5, .slice uF6 um6 uf6, .int .i64 ufp, .slice uF8 um8 uf8, .slice uF9 um9 uf9]) hs22 (yA 25 b1 2 #[.slice uF0 um0 uf0, .slice uF1 um1 uf1, .bool ufs, .bool ufl, .slice uF4 um4 uf4, .slice uF5 um5 uf5, .slice uF6 um6 uf6, .int .i64 ufp, .slice uF8 um8 uf8, .slice uF9 um9 uf9] underlying25 (by kernel_rfl) (fun w' h => HCU.out w' (HW.out w' h).1)) ?_
  refine cN #[.slice none 0 0, .slice none 0 0, .bool false, .bool false, .slice none 0 0, .slice none 0 0, .slice none 0 0, .int .i64 0, .slice none 0 0, .slice none 0 0] 25 ?_
  intro b13 w23 b13_ge b13_lt k13 hb23
  obtain ⟨hS23, hz23, hy23⟩ := zC hs22 hb23
  refine wP ?_
  refine cB 25 b13 0 [.slice uF0 um0 uf0, .slice uF1 um1 uf1, .bool ufs, .bool ufl, .slice uF4 um4 uf4, .slice uF5 um5 uf5, .slice uF6 um6 uf6, .int .i64 ufp, .slice uF8 um8 uf8, .slice uF9 um9 uf9] 25 k13 ?_
  intro w24 k13' hO24
  have hS24 := hS23.trans (hO24.below (by omega))
  have hz24 := hS24.size
  clear k13
  have k13 := k13'
  clear k13'
  have hzz24 := hO24.size
  replace hO24 := Lib.hid hO24
  refine wN ?_
  go_upto_region 19 with fail
  refine pR [.pointer (some ⟨b1, 15, none⟩)] ?_
  refine Wl.ld (v := .slice AH m.heads.length nH) ((HW.out _ hS24).1.cell 15 _ E15.out) underlying26 ?_
  refine cC func8 #[.slice AH m.heads.length nH, .int .i64 11] (HF11.out (fun k => k = b13) _ (HW.out _ hS24).2.1 (fun k hk => by rw [hk]; omega)) ?_
  rintro e w25 ⟨ds, rfl, hrd, hb25⟩
  refine cR ?_
  obtain ⟨R1, d1, R2, d2, R3, d3, R4, d4, R5, d5, R8, d8, R9, d9, R10, d10, R12, d12, R13, d13, R14, d14, R16, d16, R17, d17, R18, d18, R19, d19, rfl⟩ := (hrd _ (Ax.refl _ _)).lit
  obtain ⟨hS25, hz25, hy25⟩ := zC hS24 hb25
  replace k13 := k13.grow hb25
  refine pP [_, .int .i64 (n11 : Nat), .agg #[.int .i64 rt.t, .slice R1 rt.name.length d1, .slice R2 rt.text.length d2, .slice R3 rt.disp.length d3, .slice R4 rt.uri.scheme.length d4, .slice R5 rt.uri.raw.length d5, .bool rt.uri.star, .bool rt.uri.slashes, .slice R8 rt.uri.user.length d8, .slice R9 rt.uri.pass.length d9, .slice R10 rt.uri.host.length d10, .int .i64 rt.uri.port, .slice R12 rt.uri.ps.length d12, .slice R13 rt.uri.hs.length d13, .slice R14 rt.ps.length d14, .int .u32 rt.num, .slice R16 rt.proto.length d16, .slice R17 rt.ver.length d17, .slice R18 rt.tr.length d18, .slice R19 rt.host.length d19, .int .i64 rt.port]] ?_
  refine cN #[.int .i64 0, .slice none 0 0, .slice none 0 0, .slice none 0 0, .slice none 0 0, .slice none 0 0, .bool false, .bool false, .slice none 0 0, .slice none 0 0, .slice none 0 0, .int .i64 0, .slice none 0 0, .slice none 0 0, .slice none 0 0, .int .u32 0, .slice none 0 0, .slice none 0 0, .slice none 0 0, .slice none 0 0, .int .i64 0] 34 ?_
  intro b15 w26 b15_ge b15_lt k15 hb26
  obtain ⟨hS26, hz26, hy26⟩ := zC hS25 hb26
  replace k13 := k13.grow hb26
  refine wP ?_
  refine pP [_] ?_
  refine cB 34 b15 0 [.int .i64 rt.t, .slice R1 rt.name.length d1, .slice R2 rt.text.length d2, .slice R3 rt.disp.length d3, .slice R4 rt.uri.scheme.length d4, .slice R5 rt.uri.raw.length d5, .bool rt.uri.star, .bool rt.uri.slashes, .slice R8 rt.uri.user.length d8, .slice R9 rt.uri.pass.length d9, .slice R10 rt.uri.host.length d10, .int .i64 rt.uri.port, .slice R12 rt.uri.ps.length d12, .slice R13 rt.uri.hs.length d13, .slice R14 rt.ps.length d14, .int .u32 rt.num, .slice R16 rt.proto.length d16, .slice R17 rt.ver.length d17, .slice R18 rt.tr.length d18, .slice R19 rt.host.length d19, .int .i64 rt.port] 34 k15 ?_
  intro w27 k15' hO27
  replace k13 := k13.oth hO27 (by omega)
  have hS27 := hS26.trans (hO27.below (by omega))
  have hz27 := hS27.size
  clear k15
  have k15 := k15'
  clear k15'
  have hzz27 := hO27.size
  replace hO27 := Lib.hid hO27
  refine wN ?_
  have hbr : Below w25.heap.size w25 w27 := hb26.trans (hO27.out.below b15_ge)
  have hz27 := hS27.size
  go_step
  go_step
  go_cut [14] from 120 (fun v14 wx => ∃ F0 m0 f0 F1 m1 f1 fs fl F4 m4 f4 F5 m5 f5 F6 m6 f6 fp F8 m8 f8 F9 m9 f9, Blk wx b13 #[.slice F0 m0 f0, .slice F1 m1 f1, .bool fs, .bool fl, .slice F4 m4 f4, .slice F5 m5 f5, .slice F6 m6 f6, .int .i64 fp, .slice F8 m8 f8, .slice F9 m9 f9] 25 ∧ UrR wx #[.slice F0 m0 f0, .slice F1 m1 f1, .bool fs, .bool fl, .slice F4 m4 f4, .slice F5 m5 f5, .slice F6 m6 f6, .int .i64 fp, .slice F8 m8 f8, .slice F9 m9 f9] U ∧ Below w22.heap.size w22 wx)
  case first =>
   by_cases h11 : 0 < n11
   ·have e : U = rt.uri := by rw [HUe.out, if_pos h11]
    go_upto_region 20 with fail
    refine pR [_] ?_
    refine igT .i64 (n11 : Nat) 0 ?_
    refine wN ?_
    go_upto_region 21 with fail
    refine pR [.pointer (some ⟨b15, 4, none⟩)] ?_
    refine Wl.la (#[.slice R4 rt.uri.scheme.length d4, .slice R5 rt.uri.raw.length d5, .bool rt.uri.star, .bool rt.uri.slashes, .slice R8 rt.uri.user.length d8, .slice R9 rt.uri.pass.length d9, .slice R10 rt.uri.host.length d10, .int .i64 rt.uri.port, .slice R12 rt.uri.ps.length d12, .slice R13 rt.uri.hs.length d13]) (k15.sub 4 _ (by kernel_rfl)) underlying25 ?_
    refine cB 25 b13 0 [.slice R4 rt.uri.scheme.length d4, .slice R5 rt.uri.raw.length d5, .bool rt.uri.star, .bool rt.uri.slashes, .slice R8 rt.uri.user.length d8, .slice R9 rt.uri.pass.length d9, .slice R10 rt.uri.host.length d10, .int .i64 rt.uri.port, .slice R12 rt.uri.ps.length d12, .slice R13 rt.uri.hs.length d13] 25 k13 ?_
    intro w28 k13' hO28
    replace k15 := k15.oth hO28 (by omega)
    have hS28 := hS27.trans (hO28.below (by omega))
    have hz28 := hS28.size
    clear k13
    have k13 := k13'
    clear k13'
    have hzz28 := hO28.size
    replace hO28 := Lib.hid hO28
    refine wN ?_
    have hax : Ax (fun k => k = b13) w25 w28 := Ax.of hbr (Ax.oth hO28.out rfl (Ax.refl _ _))
    have hru := (hrd _ hax).uri
    rw [show (#[.int .i64 rt.t, .slice R1 rt.name.length d1, .slice R2 rt.text.length d2, .slice R3 rt.disp.length d3, .slice R4 rt.uri.scheme.length d4, .slice R5 rt.uri.raw.length d5, .bool rt.uri.star, .bool rt.uri.slashes, .slice R8 rt.uri.user.length d8, .slice R9 rt.uri.pass.length d9, .slice R10 rt.uri.host.length d10, .int .i64 rt.uri.port, .slice R12 rt.uri.ps.length d12, .slice R13 rt.uri.hs.length d13, .slice R14 rt.ps.length d14, .int .u32 rt.num, .slice R16 rt.proto.length d16, .slice R17 rt.ver.length d17, .slice R18 rt.tr.length d18, .slice R19 rt.host.length d19, .int .i64 rt.port] : Array Value).extract 4 14 = #[.slice R4 rt.uri.scheme.length d4, .slice R5 rt.uri.raw.length d5, .bool rt.uri.star, .bool rt.uri.slashes, .slice R8 rt.uri.user.length d8, .slice R9 rt.uri.pass.length d9, .slice R10 rt.uri.host.length d10, .int .i64 rt.uri.port, .slice R12 rt.uri.ps.length d12, .slice R13 rt.uri.hs.length d13] from rfl] at hru
    go_wp2_with fail
    go_meet
    case rel => exact ⟨_, _, _, _, _, _, _, _, _, _, _, _, _, _, _, _, _, _, _, _, _, _, _, _, k13, e ▸ hru, hS28⟩
   ·have e : U = m.uri := by rw [HUe.out, if_neg h11]
    go_upto_region 20 with fail
    refine pR [_] ?_
    refine igF .i64 (n11 : Nat) 0 ?_
    refine wN ?_
    go_wp2_with fail
    go_meet
    case rel => exact ⟨_, _, _, _, _, _, _, _, _, _, _, _, _, _, _, _, _, _, _, _, _, _, _, _, k13, e ▸ HMU.out.grow (HW.out _ hS27).2.1, hS27⟩
  case rest =>
   obtain ⟨F0, m0, f0, F1, m1, f1, fs, fl, F4, m4, f4, F5, m5, f5, F6, m6, f6, fp, F8, m8, f8, F9, m9, f9, kU, hUu, hBd⟩ := hcut
   clear k13 k15 hrd hbr hS23 hS24 hS25 hS26 hS27 hb23 hb25 hb26 hO24 hO27
   have hfp : fp = U.port := by have := hUu.port; cases this; rfl
   have hps : KVs wc (.slice F8 m8 f8) U.ps := by obtain ⟨v, e, r⟩ := hUu.ps; cases e; exact r
   have hho : Bs wc (.slice F6 m6 f6) U.host := by obtain ⟨v, e, r⟩ := hUu.host; cases e; exact r
   subst hfp
   have HUU := Lib.hid hUu; clear hUu
   have HPSU := Lib.hid hps; clear hps
   have HHO := Lib.hid hho; clear hho
   have hzd := hBd.size
   have HBdd := Lib.hid hBd
   have hsd := Below.refl wc.heap.size wc
   have HWd : Hid (∀ wr, Below wc.heap.size wc wr → Blk wr b1 cs 28 ∧ Below w.heap.size w wr ∧ Bs wr (.slice Ap sb.length cp) sb ∧ Bs wr (.slice Aq sl.length cq) sl ∧ Bs wr (.slice Ar rb.length cr) rb ∧ Bs wr (.slice Ab bl.length cb) bl ∧ Bs wr (.slice A19 via.host.length c19) via.host) := fun wr hb => HW.out wr (hBd.trans (hb.mono hzd))
   clear hBd
   go_step
   go_step
   go_cut [16, 17] from 124 (fun _ _ wx => Below wc.heap.size wc wx)
   case first =>
    cases hq : valueOfL trNmB U.ps with
    | none =>
      go_upto_region 22 with fail
      refine pR [.pointer (some ⟨b13, 8, none⟩)] ?_
      refine Wl.ld (kU.cell 8 (.slice F8 m8 f8) (by kernel_rfl)) underlying23 ?_
      refine cC func9 #[.slice F8 m8 f8, .string ⟨#[116, 114, 97, 110, 115, 112, 111, 114, 116]⟩] (vo_none (HPSU.out.grow hsd) (by decide) hq) ?_
      rintro e w41 ⟨Ax, lx, cx, rfl, hb41⟩
      refine cR ?_
      obtain ⟨hS41, hz41, hy41⟩ := zC hsd hb41
      replace kU := kU.grow hb41
      refine pQ [_, .slice Ax lx cx, .bool false, _, _] ?_
      go_upto_region 23 with fail
      refine pR [_, _] ?_
      refine Wl.u ?_
      refine Wl.u ?_
      refine Wl.u ?_
      refine pQ [.bool false] ?_
      go_wp2_with fail
      go_meet
      case rel => exact hS41
    | some x =>
      by_cases hx : x = []
      ·subst hx
       go_upto_region 22 with fail
       refine pR [.pointer (some ⟨b13, 8, none⟩)] ?_
       refine Wl.ld (kU.cell 8 (.slice F8 m8 f8) (by kernel_rfl)) underlying23 ?_
       refine cC func9 #[.slice F8 m8 f8, .string ⟨#[116, 114, 97, 110, 115, 112, 111, 114, 116]⟩] (vo_some (HPSU.out.grow hsd) (by decide) hq) ?_
       rintro e w41 ⟨Ax, cx, rfl, hbx, hb41⟩
       refine cR ?_
       obtain ⟨hS41, hz41, hy41⟩ := zC hsd hb41
       replace kU := kU.grow hb41
       refine pQ [_, .slice Ax 0 cx, .bool true, _, _] ?_
       go_upto_region 23 with fail
       refine pS [_, _, _, .int .i64 0, .bool true, .bool true] ?_
       go_upto_region 24 with fail
       apply wR
       refine cC func7 #[] (known_c w HE.out _ ((HWd.out _ hS41).2.1)) ?_
       rintro e w42 ⟨rfl, hb42⟩
       refine cR ?_
       obtain ⟨hS42, hz42, hy42⟩ := zC hS41 hb42
       replace kU := kU.grow hb42
       refine pQ [_] ?_
       go_wp2
       go_ret
       exact ⟨rfl, (HWd.out _ hS42).2.1⟩
      ·have hxl : 0 < x.length := List.length_pos_iff.2 hx
       obtain ⟨n, hn⟩ : ∃ n, n = x.length := ⟨_, rfl⟩
       have HVS := Lib.hid (fun w' (hB : Below wc.heap.size wc w') => vo_some (w := w') (HPSU.out.grow hB) (s := ⟨#[116, 114, 97, 110, 115, 112, 111, 114, 116]⟩) (by decide) hq)
       rw [← hn] at HVS hxl
       go_upto_region 22 with fail
       refine pR [.pointer (some ⟨b13, 8, none⟩)] ?_
       refine Wl.ld (kU.cell 8 (.slice F8 m8 f8) (by kernel_rfl)) underlying23 ?_
       refine cC func9 #[.slice F8 m8 f8, .string ⟨#[116, 114, 97, 110, 115, 112, 111, 114, 116]⟩] (HVS.out _ hsd) ?_
       rintro e w41 ⟨Ax, cx, rfl, hbx, hb41⟩
       refine cR ?_
       obtain ⟨hS41, hz41, hy41⟩ := zC hsd hb41
       replace kU := kU.grow hb41
       refine pQ [_, .slice Ax n cx, .bool true, _, _] ?_
       go_upto_region 23 with fail
       refine pR [_, _, _, .int .i64 (n : Nat)] ?_
       refine ieF .i64 (n : Nat) 0 ?_
       refine pQ [.bool false] ?_
       go_wp2_with fail
       go_meet
       case rel => exact hS41
   case rest =>
    have hBe := hcut
    have hze := hBe.size
    have hse := Below.refl wc.heap.size wc
    replace kU := kU.grow hBe
    have HWe : Hid (∀ wr, Below wc.heap.size wc wr → Blk wr b1 cs 28 ∧ Below w.heap.size w wr ∧ Bs wr (.slice Ap sb.length cp) sb ∧ Bs wr (.slice Aq sl.length cq) sl ∧ Bs wr (.slice Ar rb.length cr) rb ∧ Bs wr (.slice Ab bl.length cb) bl ∧ Bs wr (.slice A19 via.host.length c19) via.host) := fun wr hb => HWd.out wr (hBe.trans (hb.mono hze))
    have HHe : Hid (∀ wr, Below wc.heap.size wc wr → Bs wr (.slice F6 m6 f6) U.host) := fun wr hb => HHO.out.grow (hBe.trans (hb.mono hze))
    have HSec : Hid (∀ wr, Below wc.heap.size wc wr → Calls Tryz.prog 14 #[.agg #[.slice F0 m0 f0, .slice F1 m1 f1, .bool fs, .bool fl, .slice F4 m4 f4, .slice F5 m5 f5, .slice F6 m6 f6, .int .i64 U.port, .slice F8 m8 f8, .slice F9 m9 f9], .slice Ab bl.length cb] wr fun e w' => ∃ r, e = .returned r ∧ Bs w' r sb ∧ Below wr.heap.size wr w') := fun wr hb => by
     rw [HSBE.out]
     exact secured_c _ U _ bl wr (HUU.out.grow (hBe.trans (hb.mono hze))) (HWe.out wr hb).2.2.2.2.2.1 HUs.out (by omega)
    have HRe : Hid (∀ wr, Below wc.heap.size wc wr → ∀ v, Bs wr v sb → Calls Tryz.prog 13 #[.slice F6 m6 f6, .int .i64 U.port, v] wr fun e w' => ∃ r, e = .returned r ∧ Bs w' r rb ∧ Below wr.heap.size wr w') := fun wr hb v hv => by
     rw [HRBE.out]
     exact reached_c _ _ U.host sb U.port wr (HHe.out wr hb) hv (by omega) (by omega) (by omega) (by omega)
    by_cases h9 : 0 < n9
    ·have hsl9 := HSL.out h9
     have HRv : Hid (∀ wr, Below wc.heap.size wc wr → ∀ v, Bs wr v sb → Calls Tryz.prog 13 #[.slice A19 via.host.length c19, .int .i64 via.port, v] wr fun e w' => ∃ r, e = .returned r ∧ Bs w' r sl ∧ Below wr.heap.size wr w') := fun wr hb v hv => by
      rw [hsl9]
      exact reached_c _ _ via.host sb via.port wr (HWe.out wr hb).2.2.2.2.2.2 hv (by have := HVH.out; omega) (by omega) HPO.out.1 HPO.out.2
     have k4 := HK4.out.grow (HBdd.out.trans (hBe.mono HBdd.out.size))
     go_upto_region 25 with fail
     apply wR
     refine Wl.la (#[.slice F0 m0 f0, .slice F1 m1 f1, .bool fs, .bool fl, .slice F4 m4 f4, .slice F5 m5 f5, .slice F6 m6 f6, .int .i64 U.port, .slice F8 m8 f8, .slice F9 m9 f9]) (kU.sub 0 _ (by kernel_rfl)) underlying25 ?_
     refine pP [_] ?_
     refine cC func14 #[.agg #[.slice F0 m0 f0, .slice F1 m1 f1, .bool fs, .bool fl, .slice F4 m4 f4, .slice F5 m5 f5, .slice F6 m6 f6, .int .i64 U.port, .slice F8 m8 f8, .slice F9 m9 f9], .slice Ab bl.length cb] (HSec.out _ hse) ?_
     rintro e w51 ⟨sv, rfl, hsv, hb51⟩
     refine cR ?_
     obtain ⟨hS51, hz51, hy51⟩ := zC hse hb51
     replace kU := kU.grow hb51
     replace k4 := k4.grow hb51
     obtain ⟨As, ks, rfl⟩ := hsv.shape
     refine pQ [_] ?_
     go_upto_region 26 with fail
     refine pR [_, _] ?_
     refine cC func12 #[.slice Ap sb.length cp, .slice As sb.length ks] (eq_same _ _ sb _ (HWe.out _ hS51).2.2.1 hsv) ?_
     rintro e w52 ⟨rfl, hb52⟩
     refine cR ?_
     obtain ⟨hS52, hz52, hy52⟩ := zC hS51 hb52
     replace hsv := hsv.grow hb52
     replace kU := kU.grow hb52
     replace k4 := k4.grow hb52
     refine pP [.bool false, _, _, .pointer (some ⟨b13, 6, none⟩)] ?_
     refine Wl.ld (kU.cell 6 (.slice F6 m6 f6) (by kernel_rfl)) underlying22 ?_
     refine pP [.pointer (some ⟨b13, 7, none⟩)] ?_
     refine Wl.ld (kU.cell 7 (.int .i64 U.port) (by kernel_rfl)) underlying3 ?_
     refine pP [_] ?_
     refine Wl.step (fun K hK => ?_)
     refine sW func13 #[.slice F6 m6 f6, .int .i64 U.port, .slice As sb.length ks] (HRe.out _ hS52 _ hsv) ?_
     rintro e w53 ⟨zv, rfl, hzv, hb53⟩
     refine ⟨_, rfl, ?_⟩
     obtain ⟨hS53, hz53, hy53⟩ := zC hS52 hb53
     replace hsv := hsv.grow hb53
     replace kU := kU.grow hb53
     replace k4 := k4.grow hb53
     obtain ⟨Az, cz, rfl⟩ := hzv.shape
     refine hK _ _ ?_
     clear hK K
     (try simp only [Act.put, zD, zE, zF])
     refine Wl.step (fun K hK => ?_)
     refine sW func12 #[.slice Ar rb.length cr, .slice Az rb.length cz] (eq_same _ _ rb _ (HWe.out _ hS53).2.2.2.2.1 hzv) ?_
     rintro e w54 ⟨rfl, hb54⟩
     refine ⟨_, rfl, ?_⟩
     obtain ⟨hS54, hz54, hy54⟩ := zC hS53 hb54
     replace hsv := hsv.grow hb54
     replace hzv := hzv.grow hb54
     replace kU := kU.grow hb54
     replace k4 := k4.grow hb54
     refine hK _ _ ?_
     clear hK K
     (try simp only [Act.put, zD, zE, zF])
     refine pQ [.bool false, .bool false] ?_
     go_upto_region 28 with fail
     refine pR [_] ?_
     refine ieF .i64 (n9 : Nat) 0 ?_
     refine pP [_, _, .pointer (some ⟨b4, 19, none⟩)] ?_
     refine Wl.ld (k4.cell 19 (.slice A19 via.host.length c19) (by kernel_rfl)) underlying22 ?_
     refine pP [.pointer (some ⟨b4, 20, none⟩)] ?_
     refine Wl.ld (k4.cell 20 (.int .i64 via.port) (by kernel_rfl)) underlying3 ?_
     refine pP [_] ?_
     refine Wl.step (fun K hK => ?_)
     refine sW func13 #[.slice A19 via.host.length c19, .int .i64 via.port, .slice As sb.length ks] (HRv.out _ hS54 _ hsv) ?_
     rintro e w55 ⟨yv, rfl, hyv, hb55⟩
     refine ⟨_, rfl, ?_⟩
     obtain ⟨hS55, hz55, hy55⟩ := zC hS54 hb55
     replace hsv := hsv.grow hb55
     replace hzv := hzv.grow hb55
     replace kU := kU.grow hb55
     replace k4 := k4.grow hb55
     obtain ⟨Ay, cy, rfl⟩ := hyv.shape
     refine hK _ _ ?_
     clear hK K
     (try simp only [Act.put, zD, zE, zF])
     refine Wl.step (fun K hK => ?_)
     refine sW func12 #[.slice Aq sl.length cq, .slice Ay sl.length cy] (eq_same _ _ sl _ (HWe.out _ hS55).2.2.2.1 hyv) ?_
     rintro e w56 ⟨rfl, hb56⟩
     refine ⟨_, rfl, ?_⟩
     obtain ⟨hS56, hz56, hy56⟩ := zC hS55 hb56
     replace hsv := hsv.grow hb56
     replace hzv := hzv.grow hb56
     replace hyv := hyv.grow hb56
     replace kU := kU.grow hb56
     replace k4 := k4.grow hb56
     refine hK _ _ ?_
     clear hK K
     (try simp only [Act.put, zD, zE, zF])
     refine pP [.bool true, _] ?_
     refine Wl.step (fun K hK => ?_)
     refine sW func7 #[] (known_c w HE.out _ ((HWe.out _ hS56).2.1)) ?_
     rintro e w57 ⟨rfl, hb57⟩
     refine ⟨_, rfl, ?_⟩
     obtain ⟨hS57, hz57, hy57⟩ := zC hS56 hb57
     replace hsv := hsv.grow hb57
     replace hzv := hzv.grow hb57
     replace hyv := hyv.grow hb57
     replace kU := kU.grow hb57
     replace k4 := k4.grow hb57
     refine hK _ _ ?_
     clear hK K
     (try simp only [Act.put, zD, zE, zF])
     refine pQ [.bool true, _] ?_
     go_wp2
     go_ret
     exact ⟨rfl, (HWe.out _ hS57).2.1⟩
    ·skip
     go_upto_region 25 with fail
     apply wR
     refine Wl.la (#[.slice F0 m0 f0, .slice F1 m1 f1, .bool fs, .bool fl, .slice F4 m4 f4, .slice F5 m5 f5, .slice F6 m6 f6, .int .i64 U.port, .slice F8 m8 f8, .slice F9 m9 f9]) (kU.sub 0 _ (by kernel_rfl)) underlying25 ?_
     refine pP [_] ?_
     refine cC func14 #[.agg #[.slice F0 m0 f0, .slice F1 m1 f1, .bool fs, .bool fl, .slice F4 m4 f4, .slice F5 m5 f5, .slice F6 m6 f6, .int .i64 U.port, .slice F8 m8 f8, .slice F9 m9 f9], .slice Ab bl.length cb] (HSec.out _ hse) ?_
     rintro e w51 ⟨sv, rfl, hsv, hb51⟩
     refine cR ?_
     obtain ⟨hS51, hz51, hy51⟩ := zC hse hb51
     replace kU := kU.grow hb51
     obtain ⟨As, ks, rfl⟩ := hsv.shape
     refine pQ [_] ?_
     go_upto_region 26 with fail
     refine pR [_, _] ?_
     refine cC func12 #[.slice Ap sb.length cp, .slice As sb.length ks] (eq_same _ _ sb _ (HWe.out _ hS51).2.2.1 hsv) ?_
     rintro e w52 ⟨rfl, hb52⟩
     refine cR ?_
     obtain ⟨hS52, hz52, hy52⟩ := zC hS51 hb52
     replace hsv := hsv.grow hb52
     replace kU := kU.grow hb52
     refine pP [.bool false, _, _, .pointer (some ⟨b13, 6, none⟩)] ?_
     refine Wl.ld (kU.cell 6 (.slice F6 m6 f6) (by kernel_rfl)) underlying22 ?_
     refine pP [.pointer (some ⟨b13, 7, none⟩)] ?_
     refine Wl.ld (kU.cell 7 (.int .i64 U.port) (by kernel_rfl)) underlying3 ?_
     refine pP [_] ?_
     refine Wl.step (fun K hK => ?_)
     refine sW func13 #[.slice F6 m6 f6, .int .i64 U.port, .slice As sb.length ks] (HRe.out _ hS52 _ hsv) ?_
     rintro e w53 ⟨zv, rfl, hzv, hb53⟩
     refine ⟨_, rfl, ?_⟩
     obtain ⟨hS53, hz53, hy53⟩ := zC hS52 hb53
     replace hsv := hsv.grow hb53
     replace kU := kU.grow hb53
     obtain ⟨Az, cz, rfl⟩ := hzv.shape
     refine hK _ _ ?_
     clear hK K
     (try simp only [Act.put, zD, zE, zF])
     refine Wl.step (fun K hK => ?_)
     refine sW func12 #[.slice Ar rb.length cr, .slice Az rb.length cz] (eq_same _ _ rb _ (HWe.out _ hS53).2.2.2.2.1 hzv) ?_
     rintro e w54 ⟨rfl, hb54⟩
     refine ⟨_, rfl, ?_⟩
     obtain ⟨hS54, hz54, hy54⟩ := zC hS53 hb54
     replace hsv := hsv.grow hb54
     replace hzv := hzv.grow hb54
     replace kU := kU.grow hb54
     refine hK _ _ ?_
     clear hK K
     (try simp only [Act.put, zD, zE, zF])
     refine pQ [.bool false, .bool false] ?_
     go_upto_region 28 with fail
     refine pR [_] ?_
     refine ieT .i64 (n9 : Nat) 0 ?_
     refine pP [_] ?_
     refine Wl.u ?_
     refine Wl.u ?_
     refine Wl.u ?_
     refine Wl.u ?_
     refine Wl.u ?_
     refine Wl.u ?_
     refine Wl.u ?_
     refine Wl.u ?_
     refine pP [.bool true, _] ?_
     refine Wl.step (fun K hK => ?_)
     refine sW func7 #[] (known_c w HE.out _ ((HWe.out _ hS54).2.1)) ?_
     rintro e w55 ⟨rfl, hb55⟩
     refine ⟨_, rfl, ?_⟩
     obtain ⟨hS55, hz55, hy55⟩ := zC hS54 hb55
     replace hsv := hsv.grow hb55
     replace hzv := hzv.grow hb55
     replace kU := kU.grow hb55
     refine hK _ _ ?_
     clear hK K
     (try simp only [Act.put, zD, zE, zF])
     refine pQ [.bool true, _] ?_
     go_wp2
     go_ret
     exact ⟨rfl, (HWe.out _ hS55).2.1⟩
end Go.Proofs.YtfcllhdhfenmcaaGreatDoor
