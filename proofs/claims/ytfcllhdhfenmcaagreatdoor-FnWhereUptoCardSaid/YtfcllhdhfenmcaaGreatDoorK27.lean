/- Part 27 of the proof: laws and walks (merged by a program). -/
import Derived.Test.YtfcllhdhfenmcaaGreatDoorK01
import Derived.Test.YtfcllhdhfenmcaaGreatDoorK26
set_option linter.all false
set_option maxHeartbeats 8000000
set_option maxRecDepth 100000
namespace Go.Proofs.YtfcllhdhfenmcaaGreatDoor
open Go.RowKit Go.Proofs.Tryz
theorem port_c (b o : Nat) (L R : List Value) (T : TypeId) (u : SU) (v8 v9 : Value) (s : ByteArray) (w : World) (H : UStart w b o L R T u v8 v9) (hs : s.size ≤ 100000000) (w0 : World) (hE : Env w0) (hw : Below w0.heap.size w0 w) (hwb : w0.heap.size ≤ b) :
 Calls Tryz.prog 103 #[.pointer (some ⟨b, o, none⟩), .string s] w (SOut b o L R T w (stPort u s)) := by
 have hv := H.vb
 have HU := Lib.hid H
 unfold uCells at hv
 have hst := Stp.refl w.heap.size b w
 have hs0 := Below.refl 0 w
 clear H
 have hwz := hw.size
 have HW := Lib.hid hw
 clear hw
 go_enter func103, ntmps103
 go_wp2
 have hit0 : Itr (w.iter s 0) w.heap.size s 0 := World.iter_heap w s 0
 have hW2 : Below w.heap.size w (w.iter s 0) := (Below.refl w.heap.size w).alloc (Nat.le_refl _) _
 obtain ⟨ib, hib⟩ : ∃ ib, ib = w.heap.size := ⟨_, rfl⟩
 obtain ⟨wi, hwi⟩ : ∃ wi, wi = w.iter s 0 := ⟨_, rfl⟩
 rw [← hib] at hit0 ⊢
 rw [← hwi] at hit0 hW2 ⊢
 have hst2 := hst.grow hW2
 have hv2 := hv.grow hW2
 have hibz : w.heap.size ≤ ib := by omega
 clear hwi hib hW2 hst hv hs0
 go_loopw [] (fun wr => ∃ (pos : Nat), pos ≤ s.size ∧ Itr wr ib s pos ∧ VB wr b o [.string u.scheme, .string u.raw, .bool u.star, .bool u.slashes, .string u.user, .string u.pass, .string u.host, .int .i64 u.port, v8, v9] L R T ∧ Stp w.heap.size b w wr ∧ Hid (scanAt fPort s 0 () = scanAt fPort s pos ())) (fun wr => s.size - wr.iterPos ib)
 case atStart => exact ⟨0, Nat.zero_le _, hit0, hv2, hst2, rfl⟩
 case round =>
  clear hit0 hv2 hst2
  obtain ⟨pos, hpt, hit, hv, hst, HI⟩ := hrel
  rw [hit.pos]
  have hs0 := Below.refl 0 wr
  by_cases hlt : pos < s.size
  ·have hN := dr_le s pos
   by_cases c1 : dr s pos = 59
   ·have HR0 : Hid (stPort u s = (match num? (s.extract 0 pos) with | some v => ⟨7, s.extract (pos + 1) s.size, false, { u with port := v }⟩ | none => ⟨7, s.extract (pos + 1) s.size, true, u⟩)) := by
     unfold Hid stPort
     rw [HI.out, scan_stop (h1 := fPort1) (h2 := fPort2) hlt (show fPort pos (dr s pos) () = .inl (7, pos) by simp [fPort, c1])]
     simp only []
     cases num? (s.extract 0 pos) <;> rfl
    have hts : (s.extract 0 pos).size ≤ 100000000 := by rw [size_ext s 0 pos hpt]; omega
    go_upto_region 3 with fail
    apply wR
    refine Wl.step (fun K hK => ?_)
    refine step_next rfl _ rfl ib s pos (by kernel_rfl) hit hlt ?_
    intro w1 hit' hO
    replace hv := hv.iter hit hO
    replace hst := hst.fresh hO hibz
    have hS1 : Below 0 wr w1 := hO.below (Nat.zero_le _)
    clear hit
    have hit : Itr w1 ib s (pos + dw s pos) := hit'
    clear hit' hO
    refine hK _ _ ?_
    clear hK K
    (try simp only [Act.put, zD, zE, zF])
    refine pQ [.bool true] ?_
    go_upto_region 4 with fail
    refine pS [.int .i64 (pos : Nat), .int .i32 (dr s pos : Nat), _, _] ?_
    go_upto_region 5 with fail
    refine pR [_] ?_
    refine ieT .i32 (dr s pos : Nat) 59 ?_
    refine wN ?_
    have hs0 := Below.refl 0 w1
    cases hn : num? (s.extract 0 pos) with
    | some n =>
      have hq1 := hst.low hwz hwb (by have := hst.size; omega)
      have HB1 := Lib.hid (HW.out.trans hq1)
      clear hq1
      have hnb := num_bounds hn
      have HR : Hid (stPort u s = ⟨7, s.extract (pos + 1) s.size, false, { u with port := n }⟩) := by
       have := HR0.out
       rw [hn] at this
       exact this
      go_upto_region 6 with fail
      refine pR [_, _, _] ?_
      refine cuH s pos underlying9 ?_
      refine cC func113 #[.string (s.extract 0 ((pos)))] (hE.num hn _ HB1.out hts) ?_
      rintro e w2 ⟨rfl, _, hb2⟩
      refine cR ?_
      obtain ⟨hS2, hz2, hy2⟩ := zC hs0 hb2
      replace hst := hst.grow hb2
      replace hv := hv.grow hb2
      refine pP [_, .int .i64 n, .nilIface, .pointer (some ⟨b, o, none⟩), .pointer (some ⟨b, o + 7, none⟩)] ?_
      refine Wl.step (fun K hK => ?_)
      refine sV b o 7 [.int .i64 n] hv ?_
      intro w3 hv' hO3
      replace hst := hst.sto hO3
      have hS3 := hS2.trans (hO3.below (by omega))
      have hz3 := hS3.size
      clear hv
      have hv := hv'
      clear hv'
      have hzz3 := hO3.size
      replace hO3 := Lib.hid hO3
      refine hK _ _ ?_
      clear hK K
      (try simp only [Act.put, zD, zE, zF])
      refine pQ [_] ?_
      go_upto_region 7 with fail
      refine wp_region_noPanic ?_
      have hSd7 := hS3.drew
      have hzd7 := hSd7.size
      have hze7 : (w3).drew.heap.size = (w3).heap.size := rfl
      refine wp_region_held_drew (S := fun w' => Below (0) w1 w') (by kernel_rfl) hSd7 (fun _ => ?_)
      replace hst := hst.grow (below_drew1 _)
      replace hv := hv.grow (below_drew1 _)
      refine tk 0 (.string s) rfl yR hSd7 ?_
      refine tk 1 (.int .i64 (pos : Nat)) rfl yR hSd7 ?_
      refine tk 2 (.int .i64 ((pos) + 1 : Nat)) rfl (yf_addN (by kernel_rfl) 3 3 _ _ rfl (pos) 1 (by kernel_rfl) (by kernel_rfl) (by omega)) hSd7 ?_
      refine tk 3 (.string (s.extract (((pos) + 1)) s.size)) rfl (yf_cut_l (by kernel_rfl) 9 underlying9 _ _ rfl s (by kernel_rfl) ((pos) + 1) (by kernel_rfl) (by omega)) hSd7 ?_
      refine tk 4 .nilIface rfl yR hSd7 ?_
      refine tk 5 (.func (.func 104) #[] #[]) rfl yR hSd7 ?_
      refine tk 6 (.string (s.extract (((pos) + 1)) s.size)) rfl yR hSd7 ?_
      refine tk 7 .nilIface rfl yR hSd7 ?_
      refine wpAnyH_done (by kernel_rfl) ?_ _
      refine NoPanic.normal ?_
      go_wp2
      go_ret3
      rw [HR.out]
      exact HU.out.out (r := ⟨7, s.extract (pos + 1) s.size, false, { u with port := n }⟩) rfl rfl rfl hnb.1 hnb.2 hv hst
    | none =>
      have hq1 := hst.low hwz hwb (by have := hst.size; omega)
      have HB1 := Lib.hid (HW.out.trans hq1)
      clear hq1
      have HR : Hid ((stPort u s).err = true) := by
       have := HR0.out
       rw [hn] at this
       exact congrArg Res.err this
      go_upto_region 6 with fail
      refine pR [_, _, _] ?_
      refine cuH s pos underlying9 ?_
      refine cC func113 #[.string (s.extract 0 ((pos)))] (hE.numErr hn _ HB1.out hts) ?_
      rintro e w2 ⟨n, te, pe, rfl, hnb, hb2⟩
      refine cR ?_
      obtain ⟨hS2, hz2, hy2⟩ := zC hs0 hb2
      replace hst := hst.grow hb2
      replace hv := hv.grow hb2
      refine pP [_, .int .i64 n, .iface te pe, .pointer (some ⟨b, o, none⟩), .pointer (some ⟨b, o + 7, none⟩)] ?_
      refine Wl.step (fun K hK => ?_)
      refine sV b o 7 [.int .i64 n] hv ?_
      intro w3 hv' hO3
      replace hst := hst.sto hO3
      have hS3 := hS2.trans (hO3.below (by omega))
      have hz3 := hS3.size
      clear hv
      have hv := hv'
      clear hv'
      have hzz3 := hO3.size
      replace hO3 := Lib.hid hO3
      refine hK _ _ ?_
      clear hK K
      (try simp only [Act.put, zD, zE, zF])
      refine pQ [_] ?_
      go_upto_region 7 with fail
      refine wp_region_noPanic ?_
      have hSd7 := hS3.drew
      have hzd7 := hSd7.size
      have hze7 : (w3).drew.heap.size = (w3).heap.size := rfl
      refine wp_region_held_drew (S := fun w' => Below (0) w1 w') (by kernel_rfl) hSd7 (fun _ => ?_)
      replace hst := hst.grow (below_drew1 _)
      replace hv := hv.grow (below_drew1 _)
      refine tk 0 (.string s) rfl yR hSd7 ?_
      refine tk 1 (.int .i64 (pos : Nat)) rfl yR hSd7 ?_
      refine tk 2 (.int .i64 ((pos) + 1 : Nat)) rfl (yf_addN (by kernel_rfl) 3 3 _ _ rfl (pos) 1 (by kernel_rfl) (by kernel_rfl) (by omega)) hSd7 ?_
      refine tk 3 (.string (s.extract (((pos) + 1)) s.size)) rfl (yf_cut_l (by kernel_rfl) 9 underlying9 _ _ rfl s (by kernel_rfl) ((pos) + 1) (by kernel_rfl) (by omega)) hSd7 ?_
      refine tk 4 (.iface te pe) rfl yR hSd7 ?_
      refine tk 5 (.func (.func 104) #[] #[]) rfl yR hSd7 ?_
      refine tk 6 (.string (s.extract (((pos) + 1)) s.size)) rfl yR hSd7 ?_
      refine tk 7 (.iface te pe) rfl yR hSd7 ?_
      refine wpAnyH_done (by kernel_rfl) ?_ _
      refine NoPanic.normal ?_
      go_wp2
      go_ret3
      exact HU.out.bad HR.out _ _ _ _ n hnb.1 hnb.2 hv hst
   ·by_cases c2 : dr s pos = 63
    ·have HR0 : Hid (stPort u s = (match num? (s.extract 0 pos) with | some v => ⟨8, s.extract (pos + 1) s.size, false, { u with port := v }⟩ | none => ⟨8, s.extract (pos + 1) s.size, true, u⟩)) := by
      unfold Hid stPort
      rw [HI.out, scan_stop (h1 := fPort1) (h2 := fPort2) hlt (show fPort pos (dr s pos) () = .inl (8, pos) by simp [fPort, c2])]
      simp only []
      cases num? (s.extract 0 pos) <;> rfl
     have hts : (s.extract 0 pos).size ≤ 100000000 := by rw [size_ext s 0 pos hpt]; omega
     go_upto_region 3 with fail
     apply wR
     refine Wl.step (fun K hK => ?_)
     refine step_next rfl _ rfl ib s pos (by kernel_rfl) hit hlt ?_
     intro w1 hit' hO
     replace hv := hv.iter hit hO
     replace hst := hst.fresh hO hibz
     have hS1 : Below 0 wr w1 := hO.below (Nat.zero_le _)
     clear hit
     have hit : Itr w1 ib s (pos + dw s pos) := hit'
     clear hit' hO
     refine hK _ _ ?_
     clear hK K
     (try simp only [Act.put, zD, zE, zF])
     refine pQ [.bool true] ?_
     go_upto_region 4 with fail
     refine pS [.int .i64 (pos : Nat), .int .i32 (dr s pos : Nat), _, _] ?_
     go_upto_region 5 with fail
     refine pR [_] ?_
     refine ieF .i32 (dr s pos : Nat) 59 ?_
     refine wN ?_
     go_upto_region 8 with fail
     refine pR [_] ?_
     refine ieT .i32 (dr s pos : Nat) 63 ?_
     refine wN ?_
     have hs0 := Below.refl 0 w1
     cases hn : num? (s.extract 0 pos) with
     | some n =>
       have hq1 := hst.low hwz hwb (by have := hst.size; omega)
       have HB1 := Lib.hid (HW.out.trans hq1)
       clear hq1
       have hnb := num_bounds hn
       have HR : Hid (stPort u s = ⟨8, s.extract (pos + 1) s.size, false, { u with port := n }⟩) := by
        have := HR0.out
        rw [hn] at this
        exact this
       go_upto_region 9 with fail
       refine pR [_, _, _] ?_
       refine cuH s pos underlying9 ?_
       refine cC func113 #[.string (s.extract 0 ((pos)))] (hE.num hn _ HB1.out hts) ?_
       rintro e w2 ⟨rfl, _, hb2⟩
       refine cR ?_
       obtain ⟨hS2, hz2, hy2⟩ := zC hs0 hb2
       replace hst := hst.grow hb2
       replace hv := hv.grow hb2
       refine pP [_, .int .i64 n, .nilIface, .pointer (some ⟨b, o, none⟩), .pointer (some ⟨b, o + 7, none⟩)] ?_
       refine Wl.step (fun K hK => ?_)
       refine sV b o 7 [.int .i64 n] hv ?_
       intro w3 hv' hO3
       replace hst := hst.sto hO3
       have hS3 := hS2.trans (hO3.below (by omega))
       have hz3 := hS3.size
       clear hv
       have hv := hv'
       clear hv'
       have hzz3 := hO3.size
       replace hO3 := Lib.hid hO3
       refine hK _ _ ?_
       clear hK K
       (try simp only [Act.put, zD, zE, zF])
       refine pQ [_] ?_
       go_upto_region 10 with fail
       refine wp_region_noPanic ?_
       have hSd10 := hS3.drew
       have hzd10 := hSd10.size
       have hze10 : (w3).drew.heap.size = (w3).heap.size := rfl
       refine wp_region_held_drew (S := fun w' => Below (0) w1 w') (by kernel_rfl) hSd10 (fun _ => ?_)
       replace hst := hst.grow (below_drew1 _)
       replace hv := hv.grow (below_drew1 _)
       refine tk 0 (.string s) rfl yR hSd10 ?_
       refine tk 1 (.int .i64 (pos : Nat)) rfl yR hSd10 ?_
       refine tk 2 (.int .i64 ((pos) + 1 : Nat)) rfl (yf_addN (by kernel_rfl) 3 3 _ _ rfl (pos) 1 (by kernel_rfl) (by kernel_rfl) (by omega)) hSd10 ?_
       refine tk 3 (.string (s.extract (((pos) + 1)) s.size)) rfl (yf_cut_l (by kernel_rfl) 9 underlying9 _ _ rfl s (by kernel_rfl) ((pos) + 1) (by kernel_rfl) (by omega)) hSd10 ?_
       refine tk 4 .nilIface rfl yR hSd10 ?_
       refine tk 5 (.func (.func 105) #[] #[]) rfl yR hSd10 ?_
       refine tk 6 (.string (s.extract (((pos) + 1)) s.size)) rfl yR hSd10 ?_
       refine tk 7 .nilIface rfl yR hSd10 ?_
       refine wpAnyH_done (by kernel_rfl) ?_ _
       refine NoPanic.normal ?_
       go_wp2
       go_ret3
       rw [HR.out]
       exact HU.out.out (r := ⟨8, s.extract (pos + 1) s.size, false, { u with port := n }⟩) rfl rfl rfl hnb.1 hnb.2 hv hst
     | none =>
       have hq1 := hst.low hwz hwb (by have := hst.size; omega)
       have HB1 := Lib.hid (HW.out.trans hq1)
       clear hq1
       have HR : Hid ((stPort u s).err = true) := by
        have := HR0.out
        rw [hn] at this
        exact congrArg Res.err this
       go_upto_region 9 with fail
       refine pR [_, _, _] ?_
       refine cuH s pos underlying9 ?_
       refine cC func113 #[.string (s.extract 0 ((pos)))] (hE.numErr hn _ HB1.out hts) ?_
       rintro e w2 ⟨n, te, pe, rfl, hnb, hb2⟩
       refine cR ?_
       obtain ⟨hS2, hz2, hy2⟩ := zC hs0 hb2
       replace hst := hst.grow hb2
       replace hv := hv.grow hb2
       refine pP [_, .int .i64 n, .iface te pe, .pointer (some ⟨b, o, none⟩), .pointer (some ⟨b, o + 7, none⟩)] ?_
       refine Wl.step (fun K hK => ?_)
       refine sV b o 7 [.int .i64 n] hv ?_
       intro w3 hv' hO3
       replace hst := hst.sto hO3
       have hS3 := hS2.trans (hO3.below (by omega))
       have hz3 := hS3.size
       clear hv
       have hv := hv'
       clear hv'
       have hzz3 := hO3.size
       replace hO3 := Lib.hid hO3
       refine hK _ _ ?_
       clear hK K
       (try simp only [Act.put, zD, zE, zF])
       refine pQ [_] ?_
       go_upto_region 10 with fail
       refine wp_region_noPanic ?_
       have hSd10 := hS3.drew
       have hzd10 := hSd10.size
       have hze10 : (w3).drew.heap.size = (w3).heap.size := rfl
       refine wp_region_held_drew (S := fun w' => Below (0) w1 w') (by kernel_rfl) hSd10 (fun _ => ?_)
       replace hst := hst.grow (below_drew1 _)
       replace hv := hv.grow (below_drew1 _)
       refine tk 0 (.string s) rfl yR hSd10 ?_
       refine tk 1 (.int .i64 (pos : Nat)) rfl yR hSd10 ?_
       refine tk 2 (.int .i64 ((pos) + 1 : Nat)) rfl (yf_addN (by kernel_rfl) 3 3 _ _ rfl (pos) 1 (by kernel_rfl) (by kernel_rfl) (by omega)) hSd10 ?_
       refine tk 3 (.string (s.extract (((pos) + 1)) s.size)) rfl (yf_cut_l (by kernel_rfl) 9 underlying9 _ _ rfl s (by kernel_rfl) ((pos) + 1) (by kernel_rfl) (by omega)) hSd10 ?_
       refine tk 4 (.iface te pe) rfl yR hSd10 ?_
       refine tk 5 (.func (.func 105) #[] #[]) rfl yR hSd10 ?_
       refine tk 6 (.string (s.extract (((pos) + 1)) s.size)) rfl yR hSd10 ?_
       refine tk 7 (.iface te pe) rfl yR hSd10 ?_
       refine wpAnyH_done (by kernel_rfl) ?_ _
       refine NoPanic.normal ?_
       go_wp2
       go_ret3
       exact HU.out.bad HR.out _ _ _ _ n hnb.1 hnb.2 hv hst
    ·obtain ⟨g1, g2, g4⟩ := scan_go (h1 := fPort1) (h2 := fPort2) hlt (show fPort pos (dr s pos) () = .inr () from by simp [fPort, c1, c2])
     have HG : Hid (scanAt fPort s 0 () = scanAt fPort s (pos + dw s pos) ()) := HI.out.trans g4
     clear g4 HI
     go_upto_region 3 with fail
     apply wR
     refine Wl.step (fun K hK => ?_)
     refine step_next rfl _ rfl ib s pos (by kernel_rfl) hit hlt ?_
     intro w1 hit' hO
     replace hv := hv.iter hit hO
     replace hst := hst.fresh hO hibz
     have hS1 : Below 0 wr w1 := hO.below (Nat.zero_le _)
     clear hit
     have hit : Itr w1 ib s (pos + dw s pos) := hit'
     clear hit' hO
     refine hK _ _ ?_
     clear hK K
     (try simp only [Act.put, zD, zE, zF])
     refine pQ [.bool true] ?_
     go_upto_region 4 with fail
     refine pS [.int .i64 (pos : Nat), .int .i32 (dr s pos : Nat), _, _] ?_
     go_upto_region 5 with fail
     refine pR [_] ?_
     refine ieF .i32 (dr s pos : Nat) 59 ?_
     refine wN ?_
     go_upto_region 8 with fail
     refine pR [_] ?_
     refine ieF .i32 (dr s pos : Nat) 63 ?_
     refine wN ?_
     go_wp2
     go_roundw
     case rel => exact ⟨pos + dw s pos, g1, hit, hv, hst, HG⟩
     case measure => rw [hit.pos]; omega
  ·have HR0 : Hid (stPort u s = (match num? s with | some v => ⟨7, eS, false, { u with port := v }⟩ | none => ⟨7, eS, true, u⟩)) := by
    unfold Hid stPort
    rw [HI.out, scanAt_end _ _ _ _ hlt]
    simp only []
    cases num? s <;> rfl
   have hts : s.size ≤ 100000000 := hs
   go_upto_region 3 with fail
   apply wR
   refine Wl.step (fun K hK => ?_)
   refine step_next_end rfl _ rfl ib s pos (by kernel_rfl) hit hlt ?_
   rintro _ rfl
   have hS1 := hs0
   refine hK _ _ ?_
   clear hK K
   (try simp only [Act.put, zD, zE, zF])
   refine pQ [.bool false] ?_
   have hs0 := Below.refl 0 wr
   cases hn : num? (s) with
   | some n =>
     have hq1 := hst.low hwz hwb (by have := hst.size; omega)
     have HB1 := Lib.hid (HW.out.trans hq1)
     clear hq1
     have hnb := num_bounds hn
     have HR : Hid (stPort u s = ⟨7, eS, false, { u with port := n }⟩) := by
      have := HR0.out
      rw [hn] at this
      exact this
     go_upto_region 11 with fail
     refine pR [_, _] ?_
     refine cC func113 #[.string s] (hE.num hn _ HB1.out hts) ?_
     rintro e w1 ⟨rfl, _, hb1⟩
     refine cR ?_
     obtain ⟨hS1, hz1, hy1⟩ := zC hs0 hb1
     replace hst := hst.grow hb1
     replace hv := hv.grow hb1
     refine pP [_, .int .i64 n, .nilIface, .pointer (some ⟨b, o, none⟩), .pointer (some ⟨b, o + 7, none⟩)] ?_
     refine Wl.step (fun K hK => ?_)
     refine sV b o 7 [.int .i64 n] hv ?_
     intro w2 hv' hO2
     replace hst := hst.sto hO2
     have hS2 := hS1.trans (hO2.below (by omega))
     have hz2 := hS2.size
     clear hv
     have hv := hv'
     clear hv'
     have hzz2 := hO2.size
     replace hO2 := Lib.hid hO2
     refine hK _ _ ?_
     clear hK K
     (try simp only [Act.put, zD, zE, zF])
     refine pQ [_] ?_
     go_upto_region 12 with fail
     refine pS [_, .func (.func 104) #[] #[], _, _] ?_
     go_wp2
     go_ret3
     rw [HR.out]
     exact HU.out.out (r := ⟨7, eS, false, { u with port := n }⟩) rfl rfl rfl hnb.1 hnb.2 hv hst
   | none =>
     have hq1 := hst.low hwz hwb (by have := hst.size; omega)
     have HB1 := Lib.hid (HW.out.trans hq1)
     clear hq1
     have HR : Hid ((stPort u s).err = true) := by
      have := HR0.out
      rw [hn] at this
      exact congrArg Res.err this
     go_upto_region 11 with fail
     refine pR [_, _] ?_
     refine cC func113 #[.string s] (hE.numErr hn _ HB1.out hts) ?_
     rintro e w1 ⟨n, te, pe, rfl, hnb, hb1⟩
     refine cR ?_
     obtain ⟨hS1, hz1, hy1⟩ := zC hs0 hb1
     replace hst := hst.grow hb1
     replace hv := hv.grow hb1
     refine pP [_, .int .i64 n, .iface te pe, .pointer (some ⟨b, o, none⟩), .pointer (some ⟨b, o + 7, none⟩)] ?_
     refine Wl.step (fun K hK => ?_)
     refine sV b o 7 [.int .i64 n] hv ?_
     intro w2 hv' hO2
     replace hst := hst.sto hO2
     have hS2 := hS1.trans (hO2.below (by omega))
     have hz2 := hS2.size
     clear hv
     have hv := hv'
     clear hv'
     have hzz2 := hO2.size
     replace hO2 := Lib.hid hO2
     refine hK _ _ ?_
     clear hK K
     (try simp only [Act.put, zD, zE, zF])
     refine pQ [_] ?_
     go_upto_region 12 with fail
     refine pS [_, .func (.func 104) #[] #[], _, _] ?_
     go_wp2
     go_ret3
     exact HU.out.bad HR.out _ _ _ _ n hnb.1 hnb.2 hv hst
theorem unmarshal_r (w0 : World) (hE : Env w0) (base b q : Nat) (w : World) (v : Value) (L R : List Value) (T : TypeId) (s : ByteArray) (sp en : Nat) (l l' : List PV) (n : Nat) (hr : unmarshal s sp en l = (n, l')) (h : VB w b q [v] L R T) (hp : Pw base w v l) (hT : T ≠ 145)
 (hw : Below w0.heap.size w0 w) (hbase : base ≤ w.heap.size) (hsp : sp < 128) (hen : en < 128) (hs : s.size ≤ 100000000) (hl : l.length ≤ 1000) :
 Calls Tryz.prog 115 #[.string s, .int .i32 ((sp : Nat) : Int), .int .i32 ((en : Nat) : Int), .pointer (some ⟨b, q, none⟩)] w fun e w' =>
  ∃ v', e = .returned (.tuple #[.int .i64 ((n : Nat) : Int), .nilIface]) ∧ VB w' b q [v'] L R T ∧ Pw base w' v' l' ∧ Stp base b w w' := by
 have := unmarshal_c w0 hE base b q w v L R T s sp en l h hp hT hw hbase hsp hen hs hl
 rw [hr] at this
 exact this
theorem SOut.par {w w' : World} {b o : Nat} {L R : List Value} {T : TypeId} {u : SU} {v8 v9 v' : Value} (h : UStart w b o L R T u v8 v9) {r : Res} (he : r.err = false) (hu : r.u = { u with ps := r.u.ps }) (hl : r.u.ps.length ≤ 4000000000000)
 (hv : VB w' b o (uCells r.u v' v9) L R T) (hp : HPs w' v' r.u.ps) (hst : Stp w.heap.size b w w') : SOut b o L R T w r (.returned (.tuple #[fv r.next, .string r.str, .nilIface])) w' := by
 refine ⟨hst, .inl ⟨he, rfl, ⟨⟨v', v9, hv, hp, ?_⟩, ?_⟩⟩⟩
 ·rw [hu]; exact h.h9.stp hst (Nat.le_refl _) h.vb.blk h.ty
 ·rw [hu]; exact ⟨h.ok.lo, h.ok.hi, hl, h.ok.hs⟩
theorem SOut.hed {w w' : World} {b o : Nat} {L R : List Value} {T : TypeId} {u : SU} {v8 v9 v' : Value} (h : UStart w b o L R T u v8 v9) {r : Res} (he : r.err = false) (hu : r.u = { u with hs := r.u.hs }) (hl : r.u.hs.length ≤ 4000000000000)
 (hv : VB w' b o (uCells r.u v8 v') L R T) (hp : HPs w' v' r.u.hs) (hst : Stp w.heap.size b w w') : SOut b o L R T w r (.returned (.tuple #[fv r.next, .string r.str, .nilIface])) w' := by
 refine ⟨hst, .inl ⟨he, rfl, ⟨⟨v8, v', hv, ?_, hp⟩, ?_⟩⟩⟩
 ·rw [hu]; exact h.h8.stp hst (Nat.le_refl _) h.vb.blk h.ty
 ·rw [hu]; exact ⟨h.ok.lo, h.ok.hi, h.ok.ps, hl⟩
theorem headers_c (b o : Nat) (L R : List Value) (T : TypeId) (u : SU) (v8 v9 : Value) (s : ByteArray) (w : World) (H : UStart w b o L R T u v8 v9) (hs : s.size ≤ 100000000) (w0 : World) (hE : Env w0) (hw : Below w0.heap.size w0 w) (hwb : w0.heap.size ≤ b) :
 Calls Tryz.prog 105 #[.pointer (some ⟨b, o, none⟩), .string s] w (SOut b o L R T w (stHeaders u s)) := by
 have hv := H.vb
 have HU := Lib.hid H
 unfold uCells at hv
 have hst := Stp.refl w.heap.size b w
 have hs0 := Below.refl 0 w
 have hwz := hw.size
 have HW := Lib.hid hw
 have hT := H.ty
 clear hw H
 obtain ⟨n, l, hr⟩ : ∃ n l, unmarshal s 38 0 [] = (n, l) := ⟨_, _, rfl⟩
 have hll := unmarshal_len s 38 0 (by decide) (by decide) []
 rw [hr] at hll
 simp only [List.length_nil] at hll
 have HR : Hid (stHeaders u s = ⟨0, s, false, { u with hs := l }⟩) := by unfold Hid stHeaders; rw [hr]
 have HRR := Lib.hid hr
 clear hr
 go_enter func105, ntmps105
 go_upto_region 0 with fail
 refine pS [_, _, _] ?_
 go_upto_region 1 with fail
 refine pS [_] ?_
 go_upto_region 2 with fail
 refine pR [_, .pointer (some ⟨b, o, none⟩), .pointer (some ⟨b, o + 9, none⟩)] ?_
 refine Wl.step (fun K hK => ?_)
 refine sV b o 9 [.slice none 0 0] hv ?_
 intro w1 hv' hO1
 replace hst := hst.sto hO1
 have hS1 := hs0.trans (hO1.below (by omega))
 have hz1 := hS1.size
 clear hv
 have hv := hv'
 clear hv'
 have hzz1 := hO1.size
 replace hO1 := Lib.hid hO1
 refine hK _ _ ?_
 clear hK K
 (try simp only [Act.put, zD, zE, zF])
 refine wN ?_
 have hw1 : Below w0.heap.size w0 w1 := HW.out.trans (hst.low (by omega) hwb (by omega))
 have hv1 := hv.at (k := 9) (A := [.string u.scheme, .string u.raw, .bool u.star, .bool u.slashes, .string u.user, .string u.pass, .string u.host, .int .i64 u.port, v8]) (m := [.slice none 0 0]) (B := []) rfl rfl
 have hz1 := hst.size
 have hpn : Pw w.heap.size w1 (.slice none 0 0) [] := pw_nil _ _
 clear hv
 have hs0 := Below.refl 0 w1
 go_upto_region 3 with fail
 refine pR [_, _, .pointer (some ⟨b, o, none⟩), .pointer (some ⟨b, o + 9, none⟩)] ?_
 refine cC func115 #[.string s, .int .i32 ((38 : Nat) : Int), .int .i32 ((0 : Nat) : Int), .pointer (some ⟨b, o + 9, none⟩)] (unmarshal_r w0 hE w.heap.size b (o + 9) _ _ _ _ T s 38 0 [] l n HRR.out hv1 hpn hT hw1 hz1 (by decide) (by decide) hs (by simp)) ?_
 rintro e w2 ⟨v', rfl, hv2, hp, hst2⟩
 refine cR ?_
 replace hst := hst.trans hst2
 have hS2 : Below 0 w1 w2 := hst2.low (Nat.zero_le _) (Nat.zero_le _) (Nat.zero_le _)
 refine pQ [_, .int .i64 (n : Nat), .nilIface, _] ?_
 go_upto_region 4 with fail
 refine pS [_, _, _, _, _] ?_
 go_wp2
 go_ret3
 rw [HR.out]
 refine SOut.hed (r := ⟨0, s, false, { u with hs := l }⟩) HU.out rfl rfl (by simp only []; omega) ?_ hp.hps hst
 exact hv2.back (k := 9) (A := [.string u.scheme, .string u.raw, .bool u.star, .bool u.slashes, .string u.user, .string u.pass, .string u.host, .int .i64 u.port, v8]) (m := [v']) (B := []) rfl rfl
theorem params_s (b o : Nat) (L R : List Value) (T : TypeId) (u : SU) (v8 v9 : Value) (s : ByteArray) (w : World) (H : UStart w b o L R T u v8 v9) (hs : s.size ≤ 100000000) (w0 : World) (hE : Env w0) (hw : Below w0.heap.size w0 w) (hwb : w0.heap.size ≤ b) :
 Calls Tryz.prog 104 #[.pointer (some ⟨b, o, none⟩), .string s] w (SOut b o L R T w (stParams u s)) := by
 have hv := H.vb
 have HU := Lib.hid H
 unfold uCells at hv
 have hst := Stp.refl w.heap.size b w
 have hs0 := Below.refl 0 w
 have hwz := hw.size
 have HW := Lib.hid hw
 have hT := H.ty
 clear hw H
 by_cases hz : s.size = 0
 ·have HR : Hid (stParams u s = ⟨0, s, false, { u with ps := [], hs := [] }⟩) := by unfold Hid stParams; rw [if_pos hz]
  go_enter func104, ntmps104
  go_upto_region 0 with fail
  refine pS [_, _, _] ?_
  go_upto_region 1 with fail
  refine pS [_] ?_
  go_upto_region 2 with fail
  refine pS [_] ?_
  go_upto_region 3 with fail
  refine pR [_] ?_
  refine iL s underlying9 ?_
  refine ieT .i64 (s.size : Nat) 0 ?_
  refine wN ?_
  go_upto_region 4 with fail
  refine pR [_, .pointer (some ⟨b, o, none⟩), .pointer (some ⟨b, o + 8, none⟩)] ?_
  refine Wl.step (fun K hK => ?_)
  refine sV b o 8 [.slice none 0 0] hv ?_
  intro w1 hv' hO1
  replace hst := hst.sto hO1
  have hS1 := hs0.trans (hO1.below (by omega))
  have hz1 := hS1.size
  clear hv
  have hv := hv'
  clear hv'
  have hzz1 := hO1.size
  replace hO1 := Lib.hid hO1
  refine hK _ _ ?_
  clear hK K
  (try simp only [Act.put, zD, zE, zF])
  refine wN ?_
  go_upto_region 5 with fail
  refine pR [_, .pointer (some ⟨b, o, none⟩), .pointer (some ⟨b, o + 9, none⟩)] ?_
  refine Wl.step (fun K hK => ?_)
  refine sV b o 9 [.slice none 0 0] hv ?_
  intro w2 hv' hO2
  replace hst := hst.sto hO2
  have hS2 := hS1.trans (hO2.below (by omega))
  have hz2 := hS2.size
  clear hv
  have hv := hv'
  clear hv'
  have hzz2 := hO2.size
  replace hO2 := Lib.hid hO2
  refine hK _ _ ?_
  clear hK K
  (try simp only [Act.put, zD, zE, zF])
  refine wN ?_
  go_upto_region 6 with fail
  refine pS [_, _, _, _] ?_
  go_wp2
  go_ret3
  rw [HR.out]
  exact ⟨hst, .inl ⟨rfl, rfl, ⟨⟨_, _, hv, hps_nil _, hps_nil _⟩, ⟨HU.out.ok.lo, HU.out.ok.hi, by simp, by simp⟩⟩⟩⟩
 ·obtain ⟨n, l, hr⟩ : ∃ n l, unmarshal s 59 63 [] = (n, l) := ⟨_, _, rfl⟩
  have hll := unmarshal_len s 59 63 (by decide) (by decide) []
  have hnn := unmarshal_le s 59 63 []
  rw [hr] at hll hnn
  simp only [List.length_nil] at hll hnn
  obtain ⟨m, hm⟩ : ∃ m, m = if n = s.size then n - 1 else n := ⟨_, rfl⟩
  have hml : m < s.size := by rw [hm]; split <;> omega
  have HR0 : Hid (stParams u s = (if gb s m = 63 then ⟨8, s.extract (m + 1) s.size, false, { u with ps := l }⟩ else (⟨0, s, false, { u with ps := l }⟩ : Res))) := by
   unfold Hid stParams
   rw [if_neg hz, hr]
   simp only []
   rw [← hm]
  have HRR := Lib.hid hr
  have HM := Lib.hid hm
  clear hr hm
  go_enter func104, ntmps104
  go_upto_region 0 with fail
  refine pS [_, _, _] ?_
  go_upto_region 1 with fail
  refine pS [_] ?_
  go_upto_region 2 with fail
  refine pS [_] ?_
  go_upto_region 3 with fail
  refine pR [_] ?_
  refine iL s underlying9 ?_
  refine ieF .i64 (s.size : Nat) 0 ?_
  refine wN ?_
  go_upto_region 7 with fail
  refine pR [_] ?_
  refine cC func114 #[] (newParams_c _) ?_
  rintro e w1 ⟨vn, rfl, hpn, hb1⟩
  refine cR ?_
  obtain ⟨hS1, hz1, hy1⟩ := zC hs0 hb1
  replace hst := hst.grow hb1
  replace hv := hv.grow hb1
  obtain ⟨An, cn, rfl⟩ := hpn.hps.shape
  refine pP [.pointer (some ⟨b, o, none⟩), .pointer (some ⟨b, o + 8, none⟩)] ?_
  refine Wl.step (fun K hK => ?_)
  refine sV b o 8 [.slice An (([] : List PV)).length cn] hv ?_
  intro w2 hv' hO2
  replace hst := hst.sto hO2
  have hS2 := hS1.trans (hO2.below (by omega))
  have hz2 := hS2.size
  clear hv
  have hv := hv'
  clear hv'
  have hzz2 := hO2.size
  replace hO2 := Lib.hid hO2
  refine hK _ _ ?_
  clear hK K
  (try simp only [Act.put, zD, zE, zF])
  refine wN ?_
  replace hpn := hpn.stay hO2.out (HU.out.vb.grow hb1).blk hT
  have hw1 : Below w0.heap.size w0 w2 := HW.out.trans (hst.low (by omega) hwb (by omega))
  have hv1 := hv.at (k := 8) (A := [.string u.scheme, .string u.raw, .bool u.star, .bool u.slashes, .string u.user, .string u.pass, .string u.host, .int .i64 u.port]) (m := [.slice An (([] : List PV)).length cn]) (B := [v9]) rfl rfl
  have hz1 := hst.size
  clear hv
  have hs0 := Below.refl 0 w2
  go_upto_region 8 with fail
  refine pR [_, _, .pointer (some ⟨b, o, none⟩), .pointer (some ⟨b, o + 8, none⟩)] ?_
  refine cC func115 #[.string s, .int .i32 ((59 : Nat) : Int), .int .i32 ((63 : Nat) : Int), .pointer (some ⟨b, o + 8, none⟩)] (unmarshal_r w0 hE w.heap.size b (o + 8) _ _ _ _ T s 59 63 [] l n HRR.out hv1 hpn hT hw1 hz1 (by decide) (by decide) hs (by simp)) ?_
  rintro e w3 ⟨v', rfl, hv2, hp, hst2⟩
  refine cR ?_
  replace hst := hst.trans hst2
  have hS3 : Below 0 w2 w3 := hst2.low (Nat.zero_le _) (Nat.zero_le _) (Nat.zero_le _)
  refine pQ [_, .int .i64 (n : Nat), .nilIface, _, _] ?_
  go_upto_region 9 with fail
  refine pS [_, .bool false] ?_
  have hv3 := hv2.back (k := 8) (cs := uCells { u with ps := l } v' v9) (A := [.string u.scheme, .string u.raw, .bool u.star, .bool u.slashes, .string u.user, .string u.pass, .string u.host, .int .i64 u.port]) (m := [v']) (B := [v9]) rfl rfl
  have hs0 := Below.refl 0 w3
  clear hv2 hv1 hpn
  by_cases c1 : n = s.size
  ·obtain rfl : m = n - 1 := by have := HM.out; rw [if_pos c1] at this; exact this
   by_cases c2 : gb s (n - 1) = 63
   ·have HR : Hid (stParams u s = ⟨8, s.extract (n - 1 + 1) s.size, false, { u with ps := l }⟩) := by unfold Hid; rw [HR0.out, if_pos c2]
    go_upto_region 11 with fail
    refine pR [_, _] ?_
    refine iL s underlying9 ?_
    refine ieT .i64 (n : Nat) (s.size : Nat) ?_
    refine wN ?_
    go_upto_region 12 with fail
    refine pR [_] ?_
    refine yb (.int .i64 (((n) - 1 : Nat) : Int)) hs0 (yf_subN (by kernel_rfl) 3 3 _ _ rfl (n) 1 (by kernel_rfl) (by kernel_rfl) (by omega) (by omega)) ?_
    refine pQ [_] ?_
    go_upto_region 13 with fail
    refine pR [_, _] ?_
    refine yb (.int .u8 ((gb s (((n) - 1)) : Nat) : Int)) hs0 (yf_byte (by kernel_rfl) 9 underlying9 _ _ rfl s ((n) - 1) (by kernel_rfl) (by kernel_rfl) (by omega)) ?_
    refine inF .u8 (gb s (((n) - 1)) : Nat) 63 ?_
    refine wN ?_
    go_upto_region 15 with fail
    refine wp_region_noPanic ?_
    have hSd15 := hs0.drew
    have hzd15 := hSd15.size
    have hze15 : (w3).drew.heap.size = (w3).heap.size := rfl
    refine wp_region_held_drew (S := fun w' => Below (0) w3 w') (by kernel_rfl) hSd15 (fun _ => ?_)
    replace hp := hp.grow (below_drew1 _)
    replace hv3 := hv3.grow (below_drew1 _)
    replace hst := hst.grow (below_drew1 _)
    refine tk 0 (.string s) rfl yR hSd15 ?_
    refine tk 1 (.int .i64 ((n) - 1 : Nat)) rfl yR hSd15 ?_
    refine tk 2 (.int .i64 (((n) - 1) + 1 : Nat)) rfl (yf_addN (by kernel_rfl) 3 3 _ _ rfl ((n) - 1) 1 (by kernel_rfl) (by kernel_rfl) (by omega)) hSd15 ?_
    refine tk 3 (.string (s.extract ((((n) - 1) + 1)) s.size)) rfl (yf_cut_l (by kernel_rfl) 9 underlying9 _ _ rfl s (by kernel_rfl) (((n) - 1) + 1) (by kernel_rfl) (by omega)) hSd15 ?_
    refine tk 4 (.func (.func 105) #[] #[]) rfl yR hSd15 ?_
    refine tk 5 (.string (s.extract ((((n) - 1) + 1)) s.size)) rfl yR hSd15 ?_
    refine tk 6 .nilIface rfl yR hSd15 ?_
    refine wpAnyH_done (by kernel_rfl) ?_ _
    refine NoPanic.normal ?_
    go_wp2
    go_ret3
    rw [HR.out]
    exact SOut.par (r := ⟨8, s.extract (n - 1 + 1) s.size, false, { u with ps := l }⟩) HU.out rfl rfl (by simp only []; omega) hv3 hp.hps hst
   ·have HR : Hid (stParams u s = ⟨0, s, false, { u with ps := l }⟩) := by unfold Hid; rw [HR0.out, if_neg c2]
    go_upto_region 11 with fail
    refine pR [_, _] ?_
    refine iL s underlying9 ?_
    refine ieT .i64 (n : Nat) (s.size : Nat) ?_
    refine wN ?_
    go_upto_region 12 with fail
    refine pR [_] ?_
    refine yb (.int .i64 (((n) - 1 : Nat) : Int)) hs0 (yf_subN (by kernel_rfl) 3 3 _ _ rfl (n) 1 (by kernel_rfl) (by kernel_rfl) (by omega) (by omega)) ?_
    refine pQ [_] ?_
    go_upto_region 13 with fail
    refine pR [_, _] ?_
    refine yb (.int .u8 ((gb s (((n) - 1)) : Nat) : Int)) hs0 (yf_byte (by kernel_rfl) 9 underlying9 _ _ rfl s ((n) - 1) (by kernel_rfl) (by kernel_rfl) (by omega)) ?_
    refine inT .u8 (gb s (((n) - 1)) : Nat) 63 ?_
    refine wN ?_
    go_upto_region 14 with fail
    refine pS [_, _, _, _] ?_
    go_wp2
    go_ret3
    rw [HR.out]
    exact SOut.par (r := ⟨0, s, false, { u with ps := l }⟩) HU.out rfl rfl (by simp only []; omega) hv3 hp.hps hst
  ·obtain rfl : m = n := by have := HM.out; rw [if_neg c1] at this; exact this
   by_cases c2 : gb s m = 63
   ·have HR : Hid (stParams u s = ⟨8, s.extract (m + 1) s.size, false, { u with ps := l }⟩) := by unfold Hid; rw [HR0.out, if_pos c2]
    go_upto_region 11 with fail
    refine pR [_, _] ?_
    refine iL s underlying9 ?_
    refine ieF .i64 (m : Nat) (s.size : Nat) ?_
    refine wN ?_
    go_upto_region 13 with fail
    refine pR [_, _] ?_
    refine yb (.int .u8 ((gb s ((m)) : Nat) : Int)) hs0 (yf_byte (by kernel_rfl) 9 underlying9 _ _ rfl s (m) (by kernel_rfl) (by kernel_rfl) (by omega)) ?_
    refine inF .u8 (gb s ((m)) : Nat) 63 ?_
    refine wN ?_
    go_upto_region 15 with fail
    refine wp_region_noPanic ?_
    have hSd15 := hs0.drew
    have hzd15 := hSd15.size
    have hze15 : (w3).drew.heap.size = (w3).heap.size := rfl
    refine wp_region_held_drew (S := fun w' => Below (0) w3 w') (by kernel_rfl) hSd15 (fun _ => ?_)
    replace hp := hp.grow (below_drew1 _)
    replace hv3 := hv3.grow (below_drew1 _)
    replace hst := hst.grow (below_drew1 _)
    refine tk 0 (.string s) rfl yR hSd15 ?_
    refine tk 1 (.int .i64 (m : Nat)) rfl yR hSd15 ?_
    refine tk 2 (.int .i64 ((m) + 1 : Nat)) rfl (yf_addN (by kernel_rfl) 3 3 _ _ rfl (m) 1 (by kernel_rfl) (by kernel_rfl) (by omega)) hSd15 ?_
    refine tk 3 (.string (s.extract (((m) + 1)) s.size)) rfl (yf_cut_l (by kernel_rfl) 9 underlying9 _ _ rfl s (by kernel_rfl) ((m) + 1) (by kernel_rfl) (by omega)) hSd15 ?_
    refine tk 4 (.func (.func 105) #[] #[]) rfl yR hSd15 ?_
    refine tk 5 (.string (s.extract (((m) + 1)) s.size)) rfl yR hSd15 ?_
    refine tk 6 .nilIface rfl yR hSd15 ?_
    refine wpAnyH_done (by kernel_rfl) ?_ _
    refine NoPanic.normal ?_
    go_wp2
    go_ret3
    rw [HR.out]
    exact SOut.par (r := ⟨8, s.extract (m + 1) s.size, false, { u with ps := l }⟩) HU.out rfl rfl (by simp only []; omega) hv3 hp.hps hst
   ·have HR : Hid (stParams u s = ⟨0, s, false, { u with ps := l }⟩) := by unfold Hid; rw [HR0.out, if_neg c2]
    go_upto_region 11 with fail
    refine pR [_, _] ?_
    refine iL s underlying9 ?_
    refine ieF .i64 (m : Nat) (s.size : Nat) ?_
    refine wN ?_
    go_upto_region 13 with fail
    refine pR [_, _] ?_
    refine yb (.int .u8 ((gb s ((m)) : Nat) : Int)) hs0 (yf_byte (by kernel_rfl) 9 underlying9 _ _ rfl s (m) (by kernel_rfl) (by kernel_rfl) (by omega)) ?_
    refine inT .u8 (gb s ((m)) : Nat) 63 ?_
    refine wN ?_
    go_upto_region 14 with fail
    refine pS [_, _, _, _] ?_
    go_wp2
    go_ret3
    rw [HR.out]
    exact SOut.par (r := ⟨0, s, false, { u with ps := l }⟩) HU.out rfl rfl (by simp only []; omega) hv3 hp.hps hst
theorem scan_prop {σ ρ : Type} {f : Nat → Nat → σ → ρ ⊕ σ} (Q : ρ → Prop) (hf : ∀ i c st r, f i c st = .inl r → Q r) (l : List UInt8) : ∀ (i : Nat) (st : σ) (r : ρ), scan f l i st = .inl r → Q r := by
 induction l with
 | nil => intro i st r h; simp [scan] at h
 | cons c t ih =>
   intro i st r h
   rw [scan] at h
   cases hq : f i c.toNat st with
   | inl r' =>
     rw [hq] at h
     simp at h
     subst h
     exact hf _ _ _ _ hq
   | inr st' =>
     rw [hq] at h
     exact ih _ _ _ h
theorem cut_le (s : ByteArray) (a b : Nat) : (s.extract a b).size ≤ s.size := by rw [ByteArray.size_extract]; omega
theorem step_next' (k : Nat) (hk : 1 ≤ k ∧ k ≤ 8) (u : SU) (s : ByteArray) : ((stepU k u s).next = 0 ∨ (k < (stepU k u s).next ∧ (stepU k u s).next ≤ 8)) ∧ (stepU k u s).str.size ≤ s.size := by
 have h0 : eS.size = 0 := rfl
 obtain ⟨h1, h8⟩ := hk
 rcases (show k = 1 ∨ k = 2 ∨ k = 3 ∨ k = 4 ∨ k = 5 ∨ k = 6 ∨ k = 7 ∨ k = 8 by omega) with rfl | rfl | rfl | rfl | rfl | rfl | rfl | rfl
 ·show ((stScheme u s).next = 0 ∨ _) ∧ _
  unfold stepU
  simp only [if_true]
  unfold stScheme
  split
  ·split <;> exact ⟨.inl rfl, by simp only []; omega⟩
  ·split
   ·simp only []
    split
    ·exact ⟨.inl rfl, by simp only []; omega⟩
    ·exact ⟨.inr ⟨by simp, by simp⟩, cut_le _ _ _⟩
   ·exact ⟨.inl rfl, by simp only []; omega⟩
 ·show ((stSlashes u s).next = 0 ∨ _) ∧ _
  show (_ ∨ (2 < (stSlashes u s).next ∧ (stSlashes u s).next ≤ 8)) ∧ (stSlashes u s).str.size ≤ _
  unfold stSlashes
  split
  ·exact ⟨.inr ⟨by simp, by simp⟩, cut_le _ _ _⟩
  ·exact ⟨.inr ⟨by simp, by simp⟩, Nat.le_refl _⟩
 ·show ((stUser u s).next = 0 ∨ (3 < (stUser u s).next ∧ (stUser u s).next ≤ 8)) ∧ (stUser u s).str.size ≤ _
  unfold stUser
  split
  ·exact ⟨.inr ⟨by simp, by simp⟩, cut_le _ _ _⟩
  ·split <;> exact ⟨.inr ⟨by simp, by simp⟩, cut_le _ _ _⟩
  ·exact ⟨.inr ⟨by simp, by simp⟩, Nat.le_refl _⟩
 ·show ((stHost u s).next = 0 ∨ (4 < (stHost u s).next ∧ (stHost u s).next ≤ 8)) ∧ (stHost u s).str.size ≤ _
  unfold stHost
  split
  ·rename_i k i hq
   have hk := scan_prop (fun r : Nat × Nat => 4 < r.1 ∧ r.1 ≤ 8) (fun i c st r h => by
    unfold fHost at h
    repeat' split at h
    all_goals first | (injection h with h; subst h; exact ⟨by simp, by simp⟩) | (cases h; done)) _ _ _ _ hq
   split
   ·exact ⟨.inr ⟨by simp, by simp⟩, cut_le _ _ _⟩
   ·exact ⟨.inr hk, cut_le _ _ _⟩
  ·exact ⟨.inr ⟨by simp, by simp⟩, by simp only []; omega⟩
 ·show ((stIPV6 u s).next = 0 ∨ (5 < (stIPV6 u s).next ∧ (stIPV6 u s).next ≤ 8)) ∧ (stIPV6 u s).str.size ≤ _
  unfold stIPV6
  split
  ·exact ⟨.inl rfl, Nat.le_refl _⟩
  ·exact ⟨.inl rfl, Nat.le_refl _⟩
  ·simp only []
   split
   ·exact ⟨.inr ⟨by simp, by simp⟩, by simp only []; omega⟩
   ·split
    ·exact ⟨.inr ⟨by simp, by simp⟩, Nat.le_trans (cut_le _ _ _) (cut_le _ _ _)⟩
    ·split
     ·exact ⟨.inr ⟨by simp, by simp⟩, Nat.le_trans (cut_le _ _ _) (cut_le _ _ _)⟩
     ·split
      ·exact ⟨.inr ⟨by simp, by simp⟩, Nat.le_trans (cut_le _ _ _) (cut_le _ _ _)⟩
      ·exact ⟨.inr ⟨by simp, by simp⟩, by simp only []; omega⟩
 ·show ((stPort u s).next = 0 ∨ (6 < (stPort u s).next ∧ (stPort u s).next ≤ 8)) ∧ (stPort u s).str.size ≤ _
  unfold stPort
  split
  ·rename_i k i hq
   have hk := scan_prop (fun r : Nat × Nat => 6 < r.1 ∧ r.1 ≤ 8) (fun i c st r h => by
    unfold fPort at h
    repeat' split at h
    all_goals first | (injection h with h; subst h; exact ⟨by simp, by simp⟩) | (cases h; done)) _ _ _ _ hq
   split <;> exact ⟨.inr hk, cut_le _ _ _⟩
  ·split <;> exact ⟨.inr ⟨by simp, by simp⟩, by simp only []; omega⟩
 ·show ((stParams u s).next = 0 ∨ (7 < (stParams u s).next ∧ (stParams u s).next ≤ 8)) ∧ (stParams u s).str.size ≤ _
  unfold stParams
  split
  ·exact ⟨.inl rfl, Nat.le_refl _⟩
  ·simp only []
   repeat' split
   all_goals first | exact ⟨.inr ⟨by simp, by simp⟩, cut_le _ _ _⟩ | exact ⟨.inl rfl, Nat.le_refl _⟩
 ·exact ⟨.inl rfl, Nat.le_refl _⟩
def rk (k : Nat) : Nat := if k = 0 then 0 else 9 - k
theorem runU_fuel : ∀ (f k : Nat) (u : SU) (s : ByteArray), k ≤ 8 → rk k + 1 ≤ f → runU f k u s = runU 10 k u s := by
 have key : ∀ (r f g k : Nat) (u : SU) (s : ByteArray), k ≤ 8 → rk k = r → r + 1 ≤ f → r + 1 ≤ g → runU f k u s = runU g k u s := by
  intro r
  induction r using Nat.strongRecOn with
  | _ r ih =>
    intro f g k u s hk hr hf hg
    obtain ⟨f, rfl⟩ : ∃ f', f = f' + 1 := ⟨f - 1, by omega⟩
    obtain ⟨g, rfl⟩ : ∃ g', g = g' + 1 := ⟨g - 1, by omega⟩
    rw [runU, runU]
    by_cases h0 : k = 0
    ·rw [if_pos h0, if_pos h0]
    ·rw [if_neg h0, if_neg h0]
     simp only []
     have hn := (step_next' k (by omega) u s).1
     have hq : rk (stepU k u s).next + 1 ≤ r := by
      rw [← hr]
      unfold rk
      rw [if_neg h0]
      split <;> omega
     split
     ·rfl
     ·exact ih (rk (stepU k u s).next) (by omega) f g _ _ _ (by omega) rfl (by omega) (by omega)
 intro f k u s hk hf
 exact key (rk k) f 10 k u s hk rfl hf (by unfold rk; split <;> omega)
theorem runU_step (k : Nat) (hk : 1 ≤ k ∧ k ≤ 8) (u : SU) (s : ByteArray) (he : (stepU k u s).err = false) : runU 10 k u s = runU 10 (stepU k u s).next (stepU k u s).u (stepU k u s).str := by
 have hn := (step_next' k hk u s).1
 rw [runU, if_neg (by omega)]
 simp only []
 rw [he]
 simp only [Bool.false_eq_true, if_false]
 exact runU_fuel 9 _ _ _ (by omega) (by unfold rk; split <;> omega)
theorem runU_bad (k : Nat) (hk : 1 ≤ k ∧ k ≤ 8) (u : SU) (s : ByteArray) (he : (stepU k u s).err = true) : runU 10 k u s = none := by
 rw [runU, if_neg (by omega)]
 simp only []
 rw [he]
 rfl
def parseF (u : SU) (s : ByteArray) : Option SU := if s.size = 0 then none else runU 10 1 u s
theorem SOut.ok {b o : Nat} {L R : List Value} {T : TypeId} {w : World} {r : Res} {e : Ending} {w' : World} (h : SOut b o L R T w r e w') (he : r.err = false) : e = .returned (.tuple #[fv r.next, .string r.str, .nilIface]) ∧ UAt w' b o L R T r.u ∧ Stp w.heap.size b w w' := by
 obtain ⟨h1, ⟨h2, h3, h4⟩ | ⟨h2, h3⟩⟩ := h
 ·exact ⟨h3, h4, h1⟩
 ·rw [he] at h2; cases h2
theorem SOut.no {b o : Nat} {L R : List Value} {T : TypeId} {w : World} {r : Res} {e : Ending} {w' : World} (h : SOut b o L R T w r e w') (he : r.err = true) : ∃ f s t p u', e = .returned (.tuple #[f, .string s, .iface t p]) ∧ UAt w' b o L R T u' ∧ Stp w.heap.size b w w' := by
 obtain ⟨h1, ⟨h2, h3, h4⟩ | ⟨h2, f, s, t, p, u', h3, h4⟩⟩ := h
 ·rw [he] at h2; cases h2
 ·exact ⟨f, s, t, p, u', h3, h4, h1⟩
theorem state_c (k f : Nat) (hk : 1 ≤ k ∧ k ≤ 8) (hf : fv k = .func (.func f) #[] #[]) (w0 : World) (hE : Env w0) (b o : Nat) (L R : List Value) (T : TypeId) (u : SU) (s : ByteArray) (w : World) (h : UAt w b o L R T u) (hT : T ≠ 145) (hs : s.size ≤ 100000000)
 (hw : Below w0.heap.size w0 w) (hwb : w0.heap.size ≤ b) : Calls Tryz.prog f #[.pointer (some ⟨b, o, none⟩), .string s] w (SOut b o L R T w (stepU k u s)) := by
 obtain ⟨⟨v8, v9, h1, h2, h3⟩, hok⟩ := h
 have H : UStart w b o L R T u v8 v9 := ⟨h1, h2, h3, hT, hok⟩
 obtain ⟨hk1, hk8⟩ := hk
 rcases (show k = 1 ∨ k = 2 ∨ k = 3 ∨ k = 4 ∨ k = 5 ∨ k = 6 ∨ k = 7 ∨ k = 8 by omega) with rfl | rfl | rfl | rfl | rfl | rfl | rfl | rfl
 ·injection hf with hf; injection hf with hf; subst hf; exact scheme_c b o L R T u v8 v9 s w H hs
 ·injection hf with hf; injection hf with hf; subst hf; exact slashes_c b o L R T u v8 v9 s w H hs
 ·injection hf with hf; injection hf with hf; subst hf; exact user_c b o L R T u v8 v9 s w H hs
 ·injection hf with hf; injection hf with hf; subst hf; exact host_c b o L R T u v8 v9 s w H hs
 ·injection hf with hf; injection hf with hf; subst hf; exact ipv6_c b o L R T u v8 v9 s w H hs
 ·injection hf with hf; injection hf with hf; subst hf; exact port_c b o L R T u v8 v9 s w H hs w0 hE hw hwb
 ·injection hf with hf; injection hf with hf; subst hf; exact params_s b o L R T u v8 v9 s w H hs w0 hE hw hwb
 ·injection hf with hf; injection hf with hf; subst hf; exact headers_c b o L R T u v8 v9 s w H hs w0 hE hw hwb
def rkV (v : Value) : Nat := match v with
 | .func (.func f) _ _ => if f = 76 then 7 else if f = 87 then 6 else if f = 94 then 5 else if f = 102 then 4 else if f = 103 then 3 else if f = 104 then 2 else if f = 105 then 1 else 8
 | _ => 0
theorem rkV_fv (k : Nat) (hk : k ≤ 8) : rkV (fv k) = rk k := by
 have : ∀ k, k ≤ 8 → rkV (fv k) = rk k := by decide
 exact this k hk
theorem rkV_lt (k k' : Nat) (hk : 1 ≤ k ∧ k ≤ 8) (h : k' = 0 ∨ (k < k' ∧ k' ≤ 8)) : rkV (fv k') < rkV (fv k) := by
 rw [rkV_fv k' (by omega), rkV_fv k (by omega)]
 unfold rk
 split <;> split <;> omega
def POut (b o : Nat) (L R : List Value) (T : TypeId) (w : World) (r : Option SU) : Ending → World → Prop := fun e w' =>
 Stp w.heap.size b w w' ∧ ∃ u', UAt w' b o L R T u' ∧ ((r = some u' ∧ e = .returned .nilIface) ∨ (r = none ∧ ∃ t p, e = .returned (.iface t p)))
theorem parseUri_c (w0 : World) (hE : Env w0) (b o : Nat) (L R : List Value) (T : TypeId) (u : SU) (s : ByteArray) (w : World) (h : UAt w b o L R T u) (hT : T ≠ 145) (hs : s.size ≤ 100000000)
 (hw : Below w0.heap.size w0 w) (hwb : w0.heap.size ≤ b) : Calls Tryz.prog 48 #[.string s, .pointer (some ⟨b, o, none⟩)] w (POut b o L R T w (parseF u s)) := by
 have hs0 := Below.refl 0 w
 have hst := Stp.refl w.heap.size b w
 by_cases hz : s.size = 0
 ·have HR : Hid (parseF u s = none) := by unfold Hid parseF; rw [if_pos hz]
  have hu := h
  go_enter func48, ntmps48
  go_upto_region 0 with fail
  refine pS [_] ?_
  go_upto_region 1 with fail
  refine pR [_] ?_
  refine iL s underlying9 ?_
  refine ieT .i64 (s.size : Nat) 0 ?_
  refine wN ?_
  go_upto_region 2 with fail
  apply wR
  refine cC func65 #[.string ⟨#[101, 109, 112, 116, 121, 32, 85, 82, 73]⟩] (errNew_c _ _) ?_
  rintro e w1 ⟨be, rfl, hb1⟩
  refine cR ?_
  obtain ⟨hS1, hz1, hy1⟩ := zC hs0 hb1
  replace hst := hst.grow hb1
  refine pQ [_] ?_
  go_wp2
  go_ret
  rw [HR.out]
  obtain ⟨⟨v8, v9, h1, h2, h3⟩, hok⟩ := h
  exact ⟨hst, u, ⟨⟨v8, v9, h1.grow hb1, h2.grow hb1, h3.grow hb1⟩, hok⟩, .inr ⟨rfl, _, _, rfl⟩⟩
 ·have HR0 : Hid (parseF u s = runU 10 1 u s) := by unfold Hid parseF; rw [if_neg hz]
  have hwz := hw.size
  have HW := Lib.hid hw
  clear hw
  go_enter func48, ntmps48
  go_upto_region 0 with fail
  refine pS [_] ?_
  go_upto_region 1 with fail
  refine pR [_] ?_
  refine iL s underlying9 ?_
  refine ieF .i64 (s.size : Nat) 0 ?_
  refine wN ?_
  go_upto_region 3 with fail
  refine pS [.func (.func 66) #[] #[]] ?_
  go_upto_region 4 with fail
  refine pS [_, _] ?_
  go_wp2_with fail
  go_loopw [4, 5, 6] (fun v4 v5 v6 wr => ∃ (k : Nat) (u1 : SU) (s1 : ByteArray), k ≤ 8 ∧ v4 = .nilIface ∧ v5 = fv k ∧ v6 = .string s1 ∧ s1.size ≤ 100000000 ∧ UAt wr b o L R T u1 ∧ Stp w.heap.size b w wr ∧ Hid (runU 10 1 u s = runU 10 k u1 s1)) (fun _ v5 _ _ => rkV v5)
  case atStart => exact ⟨1, u, s, by omega, rfl, rfl, rfl, hs, h, hst, rfl⟩
  case round =>
   clear h hst
   obtain ⟨k, u1, s1, hk, rfl, rfl, rfl, hs1, hu, hst, HI⟩ := hrel
   have hs0 := Below.refl 0 wr
   have hwr : Below w0.heap.size w0 wr := HW.out.trans (hst.low hwz hwb hwz)
   rcases (show k = 0 ∨ k = 1 ∨ k = 2 ∨ k = 3 ∨ k = 4 ∨ k = 5 ∨ k = 6 ∨ k = 7 ∨ k = 8 by omega) with rfl | rfl | rfl | rfl | rfl | rfl | rfl | rfl | rfl
   ·skip
    go_upto_region 5 with fail
    refine pS [_, .bool false] ?_
    go_wp2
    go_ret
    rw [HR0.out, HI.out]
    exact ⟨hst, u1, hu, .inl ⟨by rw [runU, if_pos rfl], rfl⟩⟩
   ·have hc := state_c 1 66 ⟨by decide, by decide⟩ rfl w0 hE b o L R T u1 s1 wr hu hT hs1 hwr hwb
    have hn := step_next' 1 ⟨by decide, by decide⟩ u1 s1
    cases he : (stepU 1 u1 s1).err with
    | false =>
      have hstep := runU_step 1 ⟨by decide, by decide⟩ u1 s1 he
      have hc2 := hc.mono fun e w' h => h.ok he
      obtain ⟨r, hr⟩ : ∃ r, r = stepU 1 u1 s1 := ⟨_, rfl⟩
      rw [← hr] at hc2 hstep hn he
      obtain ⟨k', s', er, u'⟩ := r
      simp only [] at hc2 hstep hn
      have HC := Lib.hid hc2
      have HG : Hid (runU 10 1 u s = runU 10 k' u' s') := HI.out.trans hstep
      clear hc hc2 hr he hstep HI
      go_upto_region 5 with fail
      refine pS [_, .bool true] ?_
      go_upto_region 6 with fail
      refine pR [_, _, _] ?_
      refine Wl.step (fun K hK => ?_)
      refine step_enter rfl 66 #[.pointer (some ⟨b, o, none⟩), .string s1] (by kernel_rfl) HC.out ?_
      rintro e w1 ⟨rfl, hu', hst'⟩
      refine ⟨_, rfl, ?_⟩
      have hS1 : Below 0 wr w1 := hst'.low (Nat.zero_le _) (Nat.zero_le _) (Nat.zero_le _)
      have hst2 := hst.trans (hst'.mono hst.size)
      refine hK _ _ ?_
      clear hK K
      (try simp only [Act.put, zD, zE, zF])
      refine pQ [_, fv k', .string s', .nilIface, _, _, _] ?_
      go_upto_region 7 with fail
      refine pS [_, .bool false] ?_
      go_wp2
      go_roundw
      case rel => exact ⟨k', u', s', by omega, rfl, rfl, rfl, by omega, hu', hst2, HG⟩
      case measure => exact rkV_lt 1 k' (by decide) hn.1
    | true =>
      have hc2 := hc.mono fun e w' h => h.no he
      have HC := Lib.hid hc2
      have HG : Hid (runU 10 1 u s = none) := HI.out.trans (runU_bad 1 ⟨by decide, by decide⟩ u1 s1 he)
      clear hc hc2 he HI hn
      go_upto_region 5 with fail
      refine pS [_, .bool true] ?_
      go_upto_region 6 with fail
      refine pR [_, _, _] ?_
      refine Wl.step (fun K hK => ?_)
      refine step_enter rfl 66 #[.pointer (some ⟨b, o, none⟩), .string s1] (by kernel_rfl) HC.out ?_
      rintro e w1 ⟨f', s', te, pe, u', rfl, hu', hst'⟩
      refine ⟨_, rfl, ?_⟩
      have hS1 : Below 0 wr w1 := hst'.low (Nat.zero_le _) (Nat.zero_le _) (Nat.zero_le _)
      have hst2 := hst.trans (hst'.mono hst.size)
      refine hK _ _ ?_
      clear hK K
      (try simp only [Act.put, zD, zE, zF])
      refine pQ [_, f', .string s', .iface te pe, _, _, _] ?_
      go_upto_region 7 with fail
      refine pS [_, .bool true] ?_
      go_wp2
      go_ret
      rw [HR0.out, HG.out]
      exact ⟨hst2, u', hu', .inr ⟨rfl, te, pe, rfl⟩⟩
   ·have hc := state_c 2 76 ⟨by decide, by decide⟩ rfl w0 hE b o L R T u1 s1 wr hu hT hs1 hwr hwb
    have hn := step_next' 2 ⟨by decide, by decide⟩ u1 s1
    cases he : (stepU 2 u1 s1).err with
    | false =>
      have hstep := runU_step 2 ⟨by decide, by decide⟩ u1 s1 he
      have hc2 := hc.mono fun e w' h => h.ok he
      obtain ⟨r, hr⟩ : ∃ r, r = stepU 2 u1 s1 := ⟨_, rfl⟩
      rw [← hr] at hc2 hstep hn he
      obtain ⟨k', s', er, u'⟩ := r
      simp only [] at hc2 hstep hn
      have HC := Lib.hid hc2
      have HG : Hid (runU 10 1 u s = runU 10 k' u' s') := HI.out.trans hstep
      clear hc hc2 hr he hstep HI
      go_upto_region 5 with fail
      refine pS [_, .bool true] ?_
      go_upto_region 6 with fail
      refine pR [_, _, _] ?_
      refine Wl.step (fun K hK => ?_)
      refine step_enter rfl 76 #[.pointer (some ⟨b, o, none⟩), .string s1] (by kernel_rfl) HC.out ?_
      rintro e w1 ⟨rfl, hu', hst'⟩
      refine ⟨_, rfl, ?_⟩
      have hS1 : Below 0 wr w1 := hst'.low (Nat.zero_le _) (Nat.zero_le _) (Nat.zero_le _)
      have hst2 := hst.trans (hst'.mono hst.size)
      refine hK _ _ ?_
      clear hK K
      (try simp only [Act.put, zD, zE, zF])
      refine pQ [_, fv k', .string s', .nilIface, _, _, _] ?_
      go_upto_region 7 with fail
      refine pS [_, .bool false] ?_
      go_wp2
      go_roundw
      case rel => exact ⟨k', u', s', by omega, rfl, rfl, rfl, by omega, hu', hst2, HG⟩
      case measure => exact rkV_lt 2 k' (by decide) hn.1
    | true =>
      have hc2 := hc.mono fun e w' h => h.no he
      have HC := Lib.hid hc2
      have HG : Hid (runU 10 1 u s = none) := HI.out.trans (runU_bad 2 ⟨by decide, by decide⟩ u1 s1 he)
      clear hc hc2 he HI hn
      go_upto_region 5 with fail
      refine pS [_, .bool true] ?_
      go_upto_region 6 with fail
      refine pR [_, _, _] ?_
      refine Wl.step (fun K hK => ?_)
      refine step_enter rfl 76 #[.pointer (some ⟨b, o, none⟩), .string s1] (by kernel_rfl) HC.out ?_
      rintro e w1 ⟨f', s', te, pe, u', rfl, hu', hst'⟩
      refine ⟨_, rfl, ?_⟩
      have hS1 : Below 0 wr w1 := hst'.low (Nat.zero_le _) (Nat.zero_le _) (Nat.zero_le _)
      have hst2 := hst.trans (hst'.mono hst.size)
      refine hK _ _ ?_
      clear hK K
      (try simp only [Act.put, zD, zE, zF])
      refine pQ [_, f', .string s', .iface te pe, _, _, _] ?_
      go_upto_region 7 with fail
      refine pS [_, .bool true] ?_
      go_wp2
      go_ret
      rw [HR0.out, HG.out]
      exact ⟨hst2, u', hu', .inr ⟨rfl, te, pe, rfl⟩⟩
   ·have hc := state_c 3 87 ⟨by decide, by decide⟩ rfl w0 hE b o L R T u1 s1 wr hu hT hs1 hwr hwb
    have hn := step_next' 3 ⟨by decide, by decide⟩ u1 s1
    cases he : (stepU 3 u1 s1).err with
    | false =>
      have hstep := runU_step 3 ⟨by decide, by decide⟩ u1 s1 he
      have hc2 := hc.mono fun e w' h => h.ok he
      obtain ⟨r, hr⟩ : ∃ r, r = stepU 3 u1 s1 := ⟨_, rfl⟩
      rw [← hr] at hc2 hstep hn he
      obtain ⟨k', s', er, u'⟩ := r
      simp only [] at hc2 hstep hn
      have HC := Lib.hid hc2
      have HG : Hid (runU 10 1 u s = runU 10 k' u' s') := HI.out.trans hstep
      clear hc hc2 hr he hstep HI
      go_upto_region 5 with fail
      refine pS [_, .bool true] ?_
      go_upto_region 6 with fail
      refine pR [_, _, _] ?_
      refine Wl.step (fun K hK => ?_)
      refine step_enter rfl 87 #[.pointer (some ⟨b, o, none⟩), .string s1] (by kernel_rfl) HC.out ?_
      rintro e w1 ⟨rfl, hu', hst'⟩
      refine ⟨_, rfl, ?_⟩
      have hS1 : Below 0 wr w1 := hst'.low (Nat.zero_le _) (Nat.zero_le _) (Nat.zero_le _)
      have hst2 := hst.trans (hst'.mono hst.size)
      refine hK _ _ ?_
      clear hK K
      (try simp only [Act.put, zD, zE, zF])
      refine pQ [_, fv k', .string s', .nilIface, _, _, _] ?_
      go_upto_region 7 with fail
      refine pS [_, .bool false] ?_
      go_wp2
      go_roundw
      case rel => exact ⟨k', u', s', by omega, rfl, rfl, rfl, by omega, hu', hst2, HG⟩
      case measure => exact rkV_lt 3 k' (by decide) hn.1
    | true =>
      have hc2 := hc.mono fun e w' h => h.no he
      have HC := Lib.hid hc2
      have HG : Hid (runU 10 1 u s = none) := HI.out.trans (runU_bad 3 ⟨by decide, by decide⟩ u1 s1 he)
      clear hc hc2 he HI hn
      go_upto_region 5 with fail
      refine pS [_, .bool true] ?_
      go_upto_region 6 with fail
      refine pR [_, _, _] ?_
      refine Wl.step (fun K hK => ?_)
      refine step_enter rfl 87 #[.pointer (some ⟨b, o, none⟩), .string s1] (by kernel_rfl) HC.out ?_
      rintro e w1 ⟨f', s', te, pe, u', rfl, hu', hst'⟩
      refine ⟨_, rfl, ?_⟩
      have hS1 : Below 0 wr w1 := hst'.low (Nat.zero_le _) (Nat.zero_le _) (Nat.zero_le _)
      have hst2 := hst.trans (hst'.mono hst.size)
      refine hK _ _ ?_
      clear hK K
      (try simp only [Act.put, zD, zE, zF])
      refine pQ [_, f', .string s', .iface te pe, _, _, _] ?_
      go_upto_region 7 with fail
      refine pS [_, .bool true] ?_
      go_wp2
      go_ret
      rw [HR0.out, HG.out]
      exact ⟨hst2, u', hu', .inr ⟨rfl, te, pe, rfl⟩⟩
   ·have hc := state_c 4 94 ⟨by decide, by decide⟩ rfl w0 hE b o L R T u1 s1 wr hu hT hs1 hwr hwb
    have hn := step_next' 4 ⟨by decide, by decide⟩ u1 s1
    cases he : (stepU 4 u1 s1).err with
    | false =>
      have hstep := runU_step 4 ⟨by decide, by decide⟩ u1 s1 he
      have hc2 := hc.mono fun e w' h => h.ok he
      obtain ⟨r, hr⟩ : ∃ r, r = stepU 4 u1 s1 := ⟨_, rfl⟩
      rw [← hr] at hc2 hstep hn he
      obtain ⟨k', s', er, u'⟩ := r
      simp only [] at hc2 hstep hn
      have HC := Lib.hid hc2
      have HG : Hid (runU 10 1 u s = runU 10 k' u' s') := HI.out.trans hstep
      clear hc hc2 hr he hstep HI
      go_upto_region 5 with fail
      refine pS [_, .bool true] ?_
      go_upto_region 6 with fail
      refine pR [_, _, _] ?_
      refine Wl.step (fun K hK => ?_)
      refine step_enter rfl 94 #[.pointer (some ⟨b, o, none⟩), .string s1] (by kernel_rfl) HC.out ?_
      rintro e w1 ⟨rfl, hu', hst'⟩
      refine ⟨_, rfl, ?_⟩
      have hS1 : Below 0 wr w1 := hst'.low (Nat.zero_le _) (Nat.zero_le _) (Nat.zero_le _)
      have hst2 := hst.trans (hst'.mono hst.size)
      refine hK _ _ ?_
      clear hK K
      (try simp only [Act.put, zD, zE, zF])
      refine pQ [_, fv k', .string s', .nilIface, _, _, _] ?_
      go_upto_region 7 with fail
      refine pS [_, .bool false] ?_
      go_wp2
      go_roundw
      case rel => exact ⟨k', u', s', by omega, rfl, rfl, rfl, by omega, hu', hst2, HG⟩
      case measure => exact rkV_lt 4 k' (by decide) hn.1
    | true =>
      have hc2 := hc.mono fun e w' h => h.no he
      have HC := Lib.hid hc2
      have HG : Hid (runU 10 1 u s = none) := HI.out.trans (runU_bad 4 ⟨by decide, by decide⟩ u1 s1 he)
      clear hc hc2 he HI hn
      go_upto_region 5 with fail
      refine pS [_, .bool true] ?_
      go_upto_region 6 with fail
      refine pR [_, _, _] ?_
      refine Wl.step (fun K hK => ?_)
      refine step_enter rfl 94 #[.pointer (some ⟨b, o, none⟩), .string s1] (by kernel_rfl) HC.out ?_
      rintro e w1 ⟨f', s', te, pe, u', rfl, hu', hst'⟩
      refine ⟨_, rfl, ?_⟩
      have hS1 : Below 0 wr w1 := hst'.low (Nat.zero_le _) (Nat.zero_le _) (Nat.zero_le _)
      have hst2 := hst.trans (hst'.mono hst.size)
      refine hK _ _ ?_
      clear hK K
      (try simp only [Act.put, zD, zE, zF])
      refine pQ [_, f', .string s', .iface te pe, _, _, _] ?_
      go_upto_region 7 with fail
      refine pS [_, .bool true] ?_
      go_wp2
      go_ret
      rw [HR0.out, HG.out]
      exact ⟨hst2, u', hu', .inr ⟨rfl, te, pe, rfl⟩⟩
   ·have hc := state_c 5 102 ⟨by decide, by decide⟩ rfl w0 hE b o L R T u1 s1 wr hu hT hs1 hwr hwb
    have hn := step_next' 5 ⟨by decide, by decide⟩ u1 s1
    cases he : (stepU 5 u1 s1).err with
    | false =>
      have hstep := runU_step 5 ⟨by decide, by decide⟩ u1 s1 he
      have hc2 := hc.mono fun e w' h => h.ok he
      obtain ⟨r, hr⟩ : ∃ r, r = stepU 5 u1 s1 := ⟨_, rfl⟩
      rw [← hr] at hc2 hstep hn he
      obtain ⟨k', s', er, u'⟩ := r
      simp only [] at hc2 hstep hn
      have HC := Lib.hid hc2
      have HG : Hid (runU 10 1 u s = runU 10 k' u' s') := HI.out.trans hstep
      clear hc hc2 hr he hstep HI
      go_upto_region 5 with fail
      refine pS [_, .bool true] ?_
      go_upto_region 6 with fail
      refine pR [_, _, _] ?_
      refine Wl.step (fun K hK => ?_)
      refine step_enter rfl 102 #[.pointer (some ⟨b, o, none⟩), .string s1] (by kernel_rfl) HC.out ?_
      rintro e w1 ⟨rfl, hu', hst'⟩
      refine ⟨_, rfl, ?_⟩
      have hS1 : Below 0 wr w1 := hst'.low (Nat.zero_le _) (Nat.zero_le _) (Nat.zero_le _)
      have hst2 := hst.trans (hst'.mono hst.size)
      refine hK _ _ ?_
      clear hK K
      (try simp only [Act.put, zD, zE, zF])
      refine pQ [_, fv k', .string s', .nilIface, _, _, _] ?_
      go_upto_region 7 with fail
      refine pS [_, .bool false] ?_
      go_wp2
      go_roundw
      case rel => exact ⟨k', u', s', by omega, rfl, rfl, rfl, by omega, hu', hst2, HG⟩
      case measure => exact rkV_lt 5 k' (by decide) hn.1
    | true =>
      have hc2 := hc.mono fun e w' h => h.no he
      have HC := Lib.hid hc2
      have HG : Hid (runU 10 1 u s = none) := HI.out.trans (runU_bad 5 ⟨by decide, by decide⟩ u1 s1 he)
      clear hc hc2 he HI hn
      go_upto_region 5 with fail
      refine pS [_, .bool true] ?_
      go_upto_region 6 with fail
      refine pR [_, _, _] ?_
      refine Wl.step (fun K hK => ?_)
      refine step_enter rfl 102 #[.pointer (some ⟨b, o, none⟩), .string s1] (by kernel_rfl) HC.out ?_
      rintro e w1 ⟨f', s', te, pe, u', rfl, hu', hst'⟩
      refine ⟨_, rfl, ?_⟩
      have hS1 : Below 0 wr w1 := hst'.low (Nat.zero_le _) (Nat.zero_le _) (Nat.zero_le _)
      have hst2 := hst.trans (hst'.mono hst.size)
      refine hK _ _ ?_
      clear hK K
      (try simp only [Act.put, zD, zE, zF])
      refine pQ [_, f', .string s', .iface te pe, _, _, _] ?_
      go_upto_region 7 with fail
      refine pS [_, .bool true] ?_
      go_wp2
      go_ret
      rw [HR0.out, HG.out]
      exact ⟨hst2, u', hu', .inr ⟨rfl, te, pe, rfl⟩⟩
   ·have hc := state_c 6 103 ⟨by decide, by decide⟩ rfl w0 hE b o L R T u1 s1 wr hu hT hs1 hwr hwb
    have hn := step_next' 6 ⟨by decide, by decide⟩ u1 s1
    cases he : (stepU 6 u1 s1).err with
    | false =>
      have hstep := runU_step 6 ⟨by decide, by decide⟩ u1 s1 he
      have hc2 := hc.mono fun e w' h => h.ok he
      obtain ⟨r, hr⟩ : ∃ r, r = stepU 6 u1 s1 := ⟨_, rfl⟩
      rw [← hr] at hc2 hstep hn he
      obtain ⟨k', s', er, u'⟩ := r
      simp only [] at hc2 hstep hn
      have HC := Lib.hid hc2
      have HG : Hid (runU 10 1 u s = runU 10 k' u' s') := HI.out.trans hstep
      clear hc hc2 hr he hstep HI
      go_upto_region 5 with fail
      refine pS [_, .bool true] ?_
      go_upto_region 6 with fail
      refine pR [_, _, _] ?_
      refine Wl.step (fun K hK => ?_)
      refine step_enter rfl 103 #[.pointer (some ⟨b, o, none⟩), .string s1] (by kernel_rfl) HC.out ?_
      rintro e w1 ⟨rfl, hu', hst'⟩
      refine ⟨_, rfl, ?_⟩
      have hS1 : Below 0 wr w1 := hst'.low (Nat.zero_le _) (Nat.zero_le _) (Nat.zero_le _)
      have hst2 := hst.trans (hst'.mono hst.size)
      refine hK _ _ ?_
      clear hK K
      (try simp only [Act.put, zD, zE, zF])
      refine pQ [_, fv k', .string s', .nilIface, _, _, _] ?_
      go_upto_region 7 with fail
      refine pS [_, .bool false] ?_
      go_wp2
      go_roundw
      case rel => exact ⟨k', u', s', by omega, rfl, rfl, rfl, by omega, hu', hst2, HG⟩
      case measure => exact rkV_lt 6 k' (by decide) hn.1
    | true =>
      have hc2 := hc.mono fun e w' h => h.no he
      have HC := Lib.hid hc2
      have HG : Hid (runU 10 1 u s = none) := HI.out.trans (runU_bad 6 ⟨by decide, by decide⟩ u1 s1 he)
      clear hc hc2 he HI hn
      go_upto_region 5 with fail
      refine pS [_, .bool true] ?_
      go_upto_region 6 with fail
      refine pR [_, _, _] ?_
      refine Wl.step (fun K hK => ?_)
      refine step_enter rfl 103 #[.pointer (some ⟨b, o, none⟩), .string s1] (by kernel_rfl) HC.out ?_
      rintro e w1 ⟨f', s', te, pe, u', rfl, hu', hst'⟩
      refine ⟨_, rfl, ?_⟩
      have hS1 : Below 0 wr w1 := hst'.low (Nat.zero_le _) (Nat.zero_le _) (Nat.zero_le _)
      have hst2 := hst.trans (hst'.mono hst.size)
      refine hK _ _ ?_
      clear hK K
      (try simp only [Act.put, zD, zE, zF])
      refine pQ [_, f', .string s', .iface te pe, _, _, _] ?_
      go_upto_region 7 with fail
      refine pS [_, .bool true] ?_
      go_wp2
      go_ret
      rw [HR0.out, HG.out]
      exact ⟨hst2, u', hu', .inr ⟨rfl, te, pe, rfl⟩⟩
   ·have hc := state_c 7 104 ⟨by decide, by decide⟩ rfl w0 hE b o L R T u1 s1 wr hu hT hs1 hwr hwb
    have hn := step_next' 7 ⟨by decide, by decide⟩ u1 s1
    cases he : (stepU 7 u1 s1).err with
    | false =>
      have hstep := runU_step 7 ⟨by decide, by decide⟩ u1 s1 he
      have hc2 := hc.mono fun e w' h => h.ok he
      obtain ⟨r, hr⟩ : ∃ r, r = stepU 7 u1 s1 := ⟨_, rfl⟩
      rw [← hr] at hc2 hstep hn he
      obtain ⟨k', s', er, u'⟩ := r
      simp only [] at hc2 hstep hn
      have HC := Lib.hid hc2
      have HG : Hid (runU 10 1 u s = runU 10 k' u' s') := HI.out.trans hstep
      clear hc hc2 hr he hstep HI
      go_upto_region 5 with fail
      refine pS [_, .bool true] ?_
      go_upto_region 6 with fail
      refine pR [_, _, _] ?_
      refine Wl.step (fun K hK => ?_)
      refine step_enter rfl 104 #[.pointer (some ⟨b, o, none⟩), .string s1] (by kernel_rfl) HC.out ?_
      rintro e w1 ⟨rfl, hu', hst'⟩
      refine ⟨_, rfl, ?_⟩
      have hS1 : Below 0 wr w1 := hst'.low (Nat.zero_le _) (Nat.zero_le _) (Nat.zero_le _)
      have hst2 := hst.trans (hst'.mono hst.size)
      refine hK _ _ ?_
      clear hK K
      (try simp only [Act.put, zD, zE, zF])
      refine pQ [_, fv k', .string s', .nilIface, _, _, _] ?_
      go_upto_region 7 with fail
      refine pS [_, .bool false] ?_
      go_wp2
      go_roundw
      case rel => exact ⟨k', u', s', by omega, rfl, rfl, rfl, by omega, hu', hst2, HG⟩
      case measure => exact rkV_lt 7 k' (by decide) hn.1
    | true =>
      have hc2 := hc.mono fun e w' h => h.no he
      have HC := Lib.hid hc2
      have HG : Hid (runU 10 1 u s = none) := HI.out.trans (runU_bad 7 ⟨by decide, by decide⟩ u1 s1 he)
      clear hc hc2 he HI hn
      go_upto_region 5 with fail
      refine pS [_, .bool true] ?_
      go_upto_region 6 with fail
      refine pR [_, _, _] ?_
      refine Wl.step (fun K hK => ?_)
      refine step_enter rfl 104 #[.pointer (some ⟨b, o, none⟩), .string s1] (by kernel_rfl) HC.out ?_
      rintro e w1 ⟨f', s', te, pe, u', rfl, hu', hst'⟩
      refine ⟨_, rfl, ?_⟩
      have hS1 : Below 0 wr w1 := hst'.low (Nat.zero_le _) (Nat.zero_le _) (Nat.zero_le _)
      have hst2 := hst.trans (hst'.mono hst.size)
      refine hK _ _ ?_
      clear hK K
      (try simp only [Act.put, zD, zE, zF])
      refine pQ [_, f', .string s', .iface te pe, _, _, _] ?_
      go_upto_region 7 with fail
      refine pS [_, .bool true] ?_
      go_wp2
      go_ret
      rw [HR0.out, HG.out]
      exact ⟨hst2, u', hu', .inr ⟨rfl, te, pe, rfl⟩⟩
   ·have hc := state_c 8 105 ⟨by decide, by decide⟩ rfl w0 hE b o L R T u1 s1 wr hu hT hs1 hwr hwb
    have hn := step_next' 8 ⟨by decide, by decide⟩ u1 s1
    cases he : (stepU 8 u1 s1).err with
    | false =>
      have hstep := runU_step 8 ⟨by decide, by decide⟩ u1 s1 he
      have hc2 := hc.mono fun e w' h => h.ok he
      obtain ⟨r, hr⟩ : ∃ r, r = stepU 8 u1 s1 := ⟨_, rfl⟩
      rw [← hr] at hc2 hstep hn he
      obtain ⟨k', s', er, u'⟩ := r
      simp only [] at hc2 hstep hn
      have HC := Lib.hid hc2
      have HG : Hid (runU 10 1 u s = runU 10 k' u' s') := HI.out.trans hstep
      clear hc hc2 hr he hstep HI
      go_upto_region 5 with fail
      refine pS [_, .bool true] ?_
      go_upto_region 6 with fail
      refine pR [_, _, _] ?_
      refine Wl.step (fun K hK => ?_)
      refine step_enter rfl 105 #[.pointer (some ⟨b, o, none⟩), .string s1] (by kernel_rfl) HC.out ?_
      rintro e w1 ⟨rfl, hu', hst'⟩
      refine ⟨_, rfl, ?_⟩
      have hS1 : Below 0 wr w1 := hst'.low (Nat.zero_le _) (Nat.zero_le _) (Nat.zero_le _)
      have hst2 := hst.trans (hst'.mono hst.size)
      refine hK _ _ ?_
      clear hK K
      (try simp only [Act.put, zD, zE, zF])
      refine pQ [_, fv k', .string s', .nilIface, _, _, _] ?_
      go_upto_region 7 with fail
      refine pS [_, .bool false] ?_
      go_wp2
      go_roundw
      case rel => exact ⟨k', u', s', by omega, rfl, rfl, rfl, by omega, hu', hst2, HG⟩
      case measure => exact rkV_lt 8 k' (by decide) hn.1
    | true =>
      have hc2 := hc.mono fun e w' h => h.no he
      have HC := Lib.hid hc2
      have HG : Hid (runU 10 1 u s = none) := HI.out.trans (runU_bad 8 ⟨by decide, by decide⟩ u1 s1 he)
      clear hc hc2 he HI hn
      go_upto_region 5 with fail
      refine pS [_, .bool true] ?_
      go_upto_region 6 with fail
      refine pR [_, _, _] ?_
      refine Wl.step (fun K hK => ?_)
      refine step_enter rfl 105 #[.pointer (some ⟨b, o, none⟩), .string s1] (by kernel_rfl) HC.out ?_
      rintro e w1 ⟨f', s', te, pe, u', rfl, hu', hst'⟩
      refine ⟨_, rfl, ?_⟩
      have hS1 : Below 0 wr w1 := hst'.low (Nat.zero_le _) (Nat.zero_le _) (Nat.zero_le _)
      have hst2 := hst.trans (hst'.mono hst.size)
      refine hK _ _ ?_
      clear hK K
      (try simp only [Act.put, zD, zE, zF])
      refine pQ [_, f', .string s', .iface te pe, _, _, _] ?_
      go_upto_region 7 with fail
      refine pS [_, .bool true] ?_
      go_wp2
      go_ret
      rw [HR0.out, HG.out]
      exact ⟨hst2, u', hu', .inr ⟨rfl, te, pe, rfl⟩⟩
end Go.Proofs.YtfcllhdhfenmcaaGreatDoor
