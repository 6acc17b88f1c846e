/- Part 22 of the proof: laws and walks (merged by a program). -/
import Derived.Test.YtfcllhdhfenmcaaGreatDoorK01
import Derived.Test.YtfcllhdhfenmcaaGreatDoorK20
set_option linter.all false
set_option maxHeartbeats 8000000
set_option maxRecDepth 100000
namespace Go.Proofs.YtfcllhdhfenmcaaGreatDoor
open Go.RowKit Go.Proofs.Tryz
def ResOut (m : Ms) (w : World) : Ending → World → Prop := fun e w' => ∃ b vals bd, e = .returned (.iface 87 (.pointer (some ⟨b, 0, none⟩))) ∧ HsAt w.heap.size w' b 106 vals (m.heads.map toSH ++ [clenSH m.body.length]) m.compact (([.string (mk m.ver), bd, .string ⟨#[]⟩, .string ⟨#[]⟩, .string ⟨#[]⟩, .string (mk m.reason), .int .i64 m.code] : List Value)) ∧ Below w.heap.size w w'
theorem message_res (hL : LowOK) (cs : Array Value) (m : Ms) (w : World) (hA : AddrAll w) (h : MsR w cs m) (hsm : m.Small) (hg : GoodMs m) (hresp : m.resp = true) :
 Calls Tryz.prog 29 #[.agg cs] w (ResOut m w) := by
 have HSM := Lib.hid hsm
 have HG := Lib.hid hg
 have HAA := Lib.hid hA
 have HLL := Lib.hid hL
 have HX := Lib.hid (msC cs m w h)
 have HUZ : Hid ((cs.extract 2 12).size = 10) := h.uri.size
 have HCODE : Hid (-9223372036854775808 ≤ m.code ∧ m.code ≤ 9223372036854775807) := ⟨h.codeLo, h.codeHi⟩
 have HRES := Lib.hid hresp
 clear h hsm hg hA hL hresp
 obtain ⟨W0, hW0⟩ : ∃ W0, W0 = w.alloc (.cells cs 28) := ⟨_, rfl⟩
 have hW0s : W0.heap.size = w.heap.size + 1 := by rw [hW0]; simp
 obtain ⟨v1, v13, v14, v16, A, nH, cH, hnH, hheads, hnm, hx⟩ := HX.out
 rw [← hW0] at hx
 have HC := Lib.hid hx
 have HHEADS := Lib.hid hheads
 have HNH := Lib.hid hnH
 clear hx HX hheads hnH
 have hB0 : Below (w.heap.size + 1) W0 W0 := Below.refl _ _
 have HW0 := Lib.hid hW0
 clear hW0
 obtain ⟨A14, c14, hv14⟩ := ((HC.out _ hB0).1.rver).shape
 rw [HG.out.verLen] at hv14
 subst hv14
 have hz0 := hB0.size
 go_enter func29, ntmps29
 go_upto_region 1 with fail
 rw [← HW0.out]
 clear HW0
 go_upto_region 1 with fail
 refine pS [_] ?_
 go_upto_region 2 with fail
 refine pR [.pointer (some ⟨w.heap.size, 0, none⟩)] ?_
 refine Wl.ld (v := .bool true) (HRES.out ▸ (HC.out _ hB0).1.resp) underlying4 ?_
 refine wN ?_
 go_upto_region 3 with fail
 refine pR [.pointer (some ⟨w.heap.size, 12, none⟩)] ?_
 refine Wl.ld (v := .int .i64 m.code) ((HC.out _ hB0).1.code) underlying3 ?_
 refine pP [.pointer (some ⟨w.heap.size, 13, none⟩)] ?_
 refine Wl.ld (v := v13) ((HC.out _ hB0).1.reason) underlying22 ?_
 refine kE 22 9 v13 (.string (mk m.reason)) (conv_b (HC.out _ hB0).1.rreason) ?_
 refine cC func56 #[.int .i64 m.code, .string (mk m.reason)] (newResponse_c m.code (mk m.reason) _) ?_
 rintro e w1 ⟨b, bo, rfl, hblk, hO, b_ge, bo_ge, b_lt, hb1⟩
 refine cR ?_
 obtain ⟨hS1, hz1, hy1⟩ := zC hB0 hb1
 refine pQ [_] ?_
 have hT : Blk w1 b #[.slice (some ⟨bo, 0, none⟩) 0 10, .pointer none, .pointer none, .pointer none, .pointer none, .pointer none, .pointer none, .pointer none, .pointer none, .pointer none, .pointer none, .pointer none, .bool false, .string v20S, .slice none 0 0, .string ⟨#[]⟩, .string ⟨#[]⟩, .string ⟨#[]⟩, .string (mk m.reason), .int .i64 m.code] 106 := hblk
 have hblo : W0.heap.size ≤ b := by have := hS1.size; omega
 have hbolo : W0.heap.size ≤ bo := by omega
 have hbne : b ≠ bo := by
  rintro rfl
  have := hT.symm.trans hO
  injection this with this
  injection this with _ this _
  cases this
 clear hblk
 go_upto_region 4 with fail
 refine pR [.pointer (some ⟨w.heap.size, 14, none⟩)] ?_
 refine Wl.ld (v := .slice A14 7 c14) ((HC.out _ hS1).1.ver) underlying22 ?_
 refine pQ [.int .i64 7, .bool true] ?_
 go_upto_region 5 with fail
 refine pR [_, .pointer (some ⟨w.heap.size, 14, none⟩)] ?_
 refine Wl.ld (v := .slice A14 7 c14) ((HC.out _ hS1).1.ver) underlying22 ?_
 refine kE 22 9 (.slice A14 7 c14) (.string (mk m.ver)) (conv_b (HC.out _ hS1).1.rver) ?_
 refine pP [.pointer (some ⟨b, 0, none⟩), .pointer (some ⟨b, 0, none⟩), .pointer (some ⟨b, 13, none⟩)] ?_
 refine cB 9 b 13 [.string (mk m.ver)] 106 hT ?_
 intro w2 hT' hO2
 replace hO := hO.oth hO2 (by omega)
 have hS2 := hS1.trans (hO2.below (by omega))
 have hz2 := hS2.size
 clear hT
 have hT := hT'
 clear hT'
 have hzz2 := hO2.size
 replace hO2 := Lib.hid hO2
 refine wN ?_
 go_upto_region 6 with fail
 refine pR [_, .pointer (some ⟨w.heap.size, 18, none⟩)] ?_
 refine Wl.ld (v := .bool m.compact) ((HC.out _ hS2).1.compact) underlying4 ?_
 refine pP [.pointer (some ⟨b, 0, none⟩), .pointer (some ⟨b, 0, none⟩), .pointer (some ⟨b, 0, none⟩), .pointer (some ⟨b, 12, none⟩)] ?_
 refine cB 4 b 12 [.bool m.compact] 106 hT ?_
 intro w3 hT' hO3
 replace hO := hO.oth hO3 (by omega)
 have hS3 := hS2.trans (hO3.below (by omega))
 have hz3 := hS3.size
 clear hT
 have hT := hT'
 clear hT'
 have hzz3 := hO3.size
 replace hO3 := Lib.hid hO3
 refine wN ?_
 go_upto_region 7 with fail
 refine pS [_, .iface 87 (.pointer (some ⟨b, 0, none⟩)), _] ?_
 go_upto_region 13 with fail
 refine pR [.pointer (some ⟨w.heap.size, 15, none⟩)] ?_
 refine Wl.ld (v := .slice A nH cH) ((HC.out _ hS3).1.heads) underlying26 ?_
 refine pQ [.int .i64 (nH : Nat), _] ?_
 have hbase : w.heap.size + 1 ≤ w3.heap.size := by omega
 have hH : HsAt (w.heap.size + 1) w3 b 106 [] [] m.compact ([.string (mk m.ver), .slice none 0 0, .string ⟨#[]⟩, .string ⟨#[]⟩, .string ⟨#[]⟩, .string (mk m.reason), .int .i64 m.code]) := ⟨⟨_, hT, ro_new hO (by omega)⟩, rfl, fun i hi => absurd hi (by simp), .inr rfl, by omega⟩
 have hBW : Below (w.heap.size + 1) W0 w3 := hS3
 have HH0 := Lib.hid hH
 have HBW := Lib.hid hBW
 skip
 clear hH hBW hT hO hB0
 obtain ⟨wc, hwc⟩ : ∃ W, W = w3 := ⟨_, rfl⟩
 rw [← hwc] at HH0 HBW hbase  ⊢
 clear hwc
 have hK0 := Kt.refl wc
 go_wp2_with fail
 go_loopw [66] (fun i wr => ∃ (k : Nat) (vals : List Value), k ≤ nH ∧ i = .int .i64 k ∧ HsAt (w.heap.size + 1) wr b 106 vals ((m.heads.take k).map toSH) m.compact ([.string (mk m.ver), .slice none 0 0, .string ⟨#[]⟩, .string ⟨#[]⟩, .string ⟨#[]⟩, .string (mk m.reason), .int .i64 m.code]) ∧ Below (w.heap.size + 1) W0 wr ∧ Kt wc wr) (fun i _ => nH - (intOf i).toNat)
 case atStart => exact ⟨0, [], Nat.zero_le _, rfl, HH0.out, HBW.out, Kt.refl _⟩
 case round =>
  obtain ⟨k, vals, hk, rfl, hH, hB, hK⟩ := hrel
  have HHk := Lib.hid hH
  have HK := Lib.hid hK
  clear hH hK HH0
  by_cases hlt : k < nH
  ·obtain ⟨g, o, rfl, hgl, hc⟩ := HHEADS.out (by omega)
   obtain ⟨hcs, q0, g0⟩ := hc k hlt
   clear hc
   have hBw := (HC.out _ hB).2.2.2
   have HQ := Lib.hid (q0.grow hgl hBw)
   have HHD := Lib.hid (g0.grow hBw)
   have hkL : k < m.heads.length := by have := HNH.out; omega
   have hkl : ((m.heads.take k).map toSH).length ≤ k := by simp; omega
   have hnl := HSM.out.heads.len
   have HKL := Lib.hid hkl
   have HNL : Hid (k + 1 ≤ 4000000000000) := by have := HNH.out; unfold Hid; omega
   clear q0 g0 hkl hnl hBw
   have hbz := hB.size
   go_upto_region 16 with (first | (refine wpList_load_agg (o := ⟨_, .load 34 _, _, _, _, _⟩) rfl _ _ rfl (g) (o + k * 21) rfl (hcs) _ underlying34 rfl (infoHd.trans (congrArg some (Eq.symm (HHD.out.size)))) (HQ.out) ?_) | (refine wpList_store_agg (o := ⟨_, .store 34 _ _, _, _, _, _⟩) rfl _ _ _ rfl _ (hcs) rfl rfl (infoHd.trans (congrArg some (Eq.symm (HHD.out.size)))) (Eq.symm (HHD.out.size)) (HHD.out.one) ?_))
   have hH1 := HHk.out.grow (below_alloc wr (.cells hcs 34))
   have HHD1 := Lib.hid (HHD.out.alloc (.cells hcs 34))
   have hS1 : Below (w.heap.size + 1) W0 (wr.alloc (.cells hcs 34)) ∧ Blk (wr.alloc (.cells hcs 34)) wr.heap.size hcs 34 := ⟨hB.alloc (by omega) _, Blk.new wr hcs _⟩
   go_upto_region 16 with fail
   refine wp_region_noPanic ?_
   have hSd16 : (fun w' => Below (w.heap.size + 1) W0 w' ∧ Blk w' wr.heap.size hcs 34) (wr.alloc (.cells hcs 34)).drew := ⟨hS1.1.drew, hS1.2⟩
   refine wp_region_held_drew (S := fun w' => Below (w.heap.size + 1) W0 w' ∧ Blk w' wr.heap.size hcs 34) (by kernel_rfl) hSd16 (fun _ => ?_)
   replace hH1 := hH1.grow (below_drew1 _)
   refine tk 0 (.iface 87 (.pointer (some ⟨b, 0, none⟩))) rfl yR hSd16 ?_
   refine tk 1 (.agg (hcs)) rfl (yA 34 wr.heap.size 0 hcs underlying34 (infoHd.trans (congrArg some HHD.out.size.symm)) (fun w h => h.2.cells)) hSd16 ?_
   refine tk 3 (.func (.method "AppendHeader") #[.iface 87 (.pointer (some ⟨b, 0, none⟩))] #[]) rfl yR hSd16 ?_
   refine tk 4 (.func (.method "AppendHeader") #[.iface 87 (.pointer (some ⟨b, 0, none⟩))] #[]) rfl yR hSd16 ?_
   refine tk 5 (.iface 87 (.pointer (some ⟨b, 0, none⟩))) rfl yR hSd16 ?_
   refine rd 2 rfl (fun K hK => ?_)
   refine sC func50 #[.agg (hcs)] (headerG_c HAA.out hcs (hdAt m.heads k) _ (HC.out _ hSd16.1).2.2.2 (HHD1.out.grow (below_drew1 _)) (HSM.out.heads.each k hkL) (HG.out.heads k hkL)) ?_
   rintro e w1 ⟨v, rfl, hv, hb1⟩
   refine ⟨_, rfl, ?_⟩
   have hy1 := hb1.size
   replace hH1 := hH1.grow hb1
   have hz5 := hSd16.1.size
   have hS1 : Below (w.heap.size + 1) W0 w1 ∧ Blk w1 wr.heap.size hcs 34 := ⟨hSd16.1.trans (hb1.mono (by omega)), hSd16.2.grow hb1⟩
   refine sh hK hS1 ?_
   clear hK K
   refine rd 6 rfl (fun K hK => ?_)
   refine step_enter rfl 175 #[.pointer (some ⟨b, 0, none⟩), v] (by kernel_rfl) (appendHeader_c (w.heap.size + 1) _ b 106 vals _ m.compact _ hH1 v (toSH (hdAt m.heads k)) hv (by have := hS1.1.size; omega) (by have := HKL.out; have := HNL.out; omega)) ?_
   rintro e w2 ⟨rfl, hH', hK', hB'⟩
   refine ⟨_, rfl, ?_⟩
   have hS2 : Below (w.heap.size + 1) W0 w2 ∧ Blk w2 wr.heap.size hcs 34 := ⟨hS1.1.trans hB', hK' _ _ _ _ hS1.2 (by decide) (by decide) (by decide)⟩
   refine sh hK hS2 ?_
   clear hK K
   refine wpAnyH_done (by kernel_rfl) ?_ _
   refine NoPanic.normal ?_
   go_wp2
   go_roundw
   case rel => exact ⟨k + 1, vals ++ [v], by omega, by go_num, by rw [take_toSH _ _ hkL]; exact hH', hS2.1, ((HK.out.trans (Kt.alloc wr _)).trans ((Kt.of (below_drew1 _)).trans (Kt.of hb1))).trans hK'⟩
   case measure => simp [intOf]; omega
  ·obtain rfl : k = nH := by omega
   have htk : (m.heads.take k).map toSH = m.heads.map toSH := by rw [HNH.out, List.take_length]
   have hHf := HHk.out
   rw [htk] at hHf
   have HHf := Lib.hid hHf
   clear hHf htk HHk HHEADS
   have hbl : m.body.length ≤ 1048576 := HSM.out.body
   have hnl : m.heads.length ≤ 1048576 := HSM.out.heads.len
   have hl64 : (m.heads.map toSH).length + 1 ≤ 4000000000000 := by simp; omega
   have HL64 := Lib.hid hl64
   obtain ⟨nb, hnb⟩ : ∃ n, n = m.body.length := ⟨_, rfl⟩
   have HNB := Lib.hid hnb
   rw [← hnb] at hbl
   clear hnl hl64 hnb
   go_upto_region 18 with fail
   refine pR [.pointer (some ⟨w.heap.size, 17, none⟩)] ?_
   refine Wl.ld (v := .bool true) (HG.out.hasBody ▸ (HC.out _ hB).1.hasBody) underlying4 ?_
   refine wN ?_
   go_upto_region 19 with fail
   refine wp_region_noPanic ?_
   have hSd19 := hB.drew
   have hzd19 := hSd19.size
   have hze19 : (wr).drew.heap.size = (wr).heap.size := rfl
   refine wp_region_held_drew (S := fun w' => Below (w.heap.size + 1) W0 w') (by kernel_rfl) hSd19 (fun _ => ?_)
   refine tk 0 (.iface 87 (.pointer (some ⟨b, 0, none⟩))) rfl yR hSd19 ?_
   refine tk 2 (.pointer (some ⟨w.heap.size, 16, none⟩)) rfl yR hSd19 ?_
   refine tk 3 v16 rfl (yL underlying22 (fun w h => (HC.out w h).1.body)) hSd19 ?_
   refine tk 5 (.func (.method "SetBody") #[.iface 87 (.pointer (some ⟨b, 0, none⟩))] #[]) rfl yR hSd19 ?_
   refine tk 6 (.func (.method "SetBody") #[.iface 87 (.pointer (some ⟨b, 0, none⟩))] #[]) rfl yR hSd19 ?_
   refine tk 7 (.iface 87 (.pointer (some ⟨b, 0, none⟩))) rfl yR hSd19 ?_
   refine rd 1 rfl (fun K hK => ?_)
   refine step_new rfl (fun b => .slice (some ⟨b, 0, none⟩) 0 0) (#[]) 5 (by kernel_rfl) ?_
   intro be w1 be_ge be_lt he hb1
   obtain ⟨hS1, hz1, hy1⟩ := zC hSd19 hb1
   refine sh hK hS1 ?_
   clear hK K
   refine rd 4 rfl (fun K hK => ?_)
   refine step_append_body rfl _ _ rfl be be v16 m.body (by kernel_rfl) (by kernel_rfl) he ((HC.out _ hS1).1.rbody) (Nat.le_refl _) (by have := HNB.out; omega) ?_
   rw [← HNB.out]
   intro adb cb w2 hbd hb2
   have hS2 := hS1.trans (hb2.mono (by omega))
   have hH2 := (HHf.out.grow (below_drew1 _)).grow (hb1.trans (hb2.mono be_ge))
   have hKa := (Kt.of (below_drew1 wr)).trans (Kt.of (hb1.trans (hb2.mono be_ge)))
   clear he
   refine sh hK hS2 ?_
   clear hK K
   refine rd 8 rfl (fun K hK => ?_)
   refine step_enter rfl 196 #[.pointer (some ⟨b, 0, none⟩), .slice (some adb) nb cb] (by kernel_rfl) (setBody_c HLL.out (w.heap.size + 1) _ b 106 vals (m.heads.map toSH) m.compact (.string (mk m.ver)) (.slice none 0 0) [.string ⟨#[]⟩, .string ⟨#[]⟩, .string ⟨#[]⟩, .string (mk m.reason), .int .i64 m.code] hH2 adb nb cb HG.out.nolen ⟨HG.out.none1, HG.out.none2⟩ (by omega) (by have := hS2.size; omega) HL64.out) ?_
   rintro e w3 ⟨vL, rfl, hH3, hK3, hB3⟩
   refine ⟨_, rfl, ?_⟩
   have hS3 := hS2.trans hB3
   refine sh hK hS3 ?_
   clear hK K
   refine wpAnyH_done (by kernel_rfl) ?_ _
   refine NoPanic.normal ?_
   go_upto_region 20 with fail
   refine pS [_, _] ?_
   have HH3 := Lib.hid hH3
   have HKA := Lib.hid hKa
   have HK3 := Lib.hid hK3
   clear hH3 hKa hK3 hH2
   go_wp2
   go_ret
   have hfin := HH3.out.mono (base' := w.heap.size) (by omega)
   rw [show ((nb : Nat) : Int) = ((m.body.length : Nat) : Int) by rw [HNB.out]] at hfin
   unfold ResOut
   exact ⟨b, _, _, rfl, hfin, (HC.out _ (by assumption)).2.2.2⟩
end Go.Proofs.YtfcllhdhfenmcaaGreatDoor
