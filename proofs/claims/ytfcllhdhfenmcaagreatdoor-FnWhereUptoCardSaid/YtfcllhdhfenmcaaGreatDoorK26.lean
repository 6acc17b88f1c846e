/- Part 26 of the proof: laws and walks (merged by a program). -/
import Derived.Test.YtfcllhdhfenmcaaGreatDoorK01
import Derived.Test.YtfcllhdhfenmcaaGreatDoorK25
import Derived.Lib.AtoiAllCases
set_option linter.all false
set_option maxHeartbeats 8000000
set_option maxRecDepth 100000
namespace Go.Proofs.YtfcllhdhfenmcaaGreatDoor
open Go.RowKit Go.Proofs.Tryz
theorem isASCII_r (c : Nat) (hc : c ≤ 2147483647) (r : Bool) (hl : isLet c = r) (w : World) : Calls Tryz.prog 77 #[.int .i32 ((c : Nat) : Int)] w fun e w' => e = .returned (.bool r) ∧ w = w' := by
 subst hl
 exact (isASCII_c c hc w).mono fun e w' ⟨h1, h2⟩ => ⟨h1, h2.symm⟩
theorem fScheme1 : ∀ i c c' st, 128 ≤ c → 128 ≤ c' → fScheme i c st = fScheme i c' st := by
 intro i c c' st h h'
 have e1 : isLet c = false := by unfold isLet; exact decide_eq_false (by omega)
 have e2 : isLet c' = false := by unfold isLet; exact decide_eq_false (by omega)
 unfold fScheme
 rw [if_neg (show ¬ c = 58 by omega), if_neg (show ¬ c' = 58 by omega), e1, e2]
theorem fScheme2 : ∀ i c st st', 128 ≤ c → fScheme i c st = .inr st' → ∀ j c', 128 ≤ c' → fScheme j c' st' = .inr st' := by
 intro i c st st' h he j c' h'
 have e1 : isLet c = false := by unfold isLet; exact decide_eq_false (by omega)
 unfold fScheme at he
 rw [if_neg (show ¬ c = 58 by omega), e1] at he
 simp at he
theorem scheme_c (b o : Nat) (L R : List Value) (T : TypeId) (u : SU) (v8 v9 : Value) (s : ByteArray) (w : World) (H : UStart w b o L R T u v8 v9) (hs : s.size ≤ 100000000) :
 Calls Tryz.prog 66 #[.pointer (some ⟨b, o, none⟩), .string s] w (SOut b o L R T w (stScheme u s)) := by
 have h3n : (s.size : Int) < 3 ↔ s.size < 3 := by omega
 have hv := H.vb
 have HU := Lib.hid H
 unfold uCells at hv
 have hst := Stp.refl w.heap.size b w
 have hs0 := Below.refl 0 w
 clear H
 by_cases h3 : s.size < 3
 ·by_cases hst0 : s = starS
  ·subst hst0
   have HR : Hid (stScheme u starS = ⟨0, eS, false, { u with host := starS, star := true }⟩) := by
    unfold Hid stScheme
    rw [if_pos h3, if_pos rfl]
   clear h3 h3n hs
   rw [HR.out]
   clear HR
   go_enter func66, ntmps66
   go_upto_region 0 with fail
   refine pS [_, _, _] ?_
   go_upto_region 1 with fail
   refine pR [_, .int .i64 1] ?_
   refine ilT .i64 1 3 ?_ (by decide)
   refine wN ?_
   go_upto_region 2 with fail
   refine pS [_, .bool true] ?_
   go_upto_region 3 with fail
   refine pR [_, .pointer (some ⟨b, o, none⟩), .pointer (some ⟨b, o + 6, none⟩)] ?_
   refine Wl.step (fun K hK => ?_)
   refine sV b o 6 [.string ⟨#[42]⟩] hv ?_
   intro w1 hv' hO1
   replace hst := hst.sto hO1
   have hS1 := hs0.trans (hO1.below (by omega))
   have hz1 := hS1.size
   clear hv
   have hv := hv'
   clear hv'
   have hzz1 := hO1.size
   replace hO1 := Lib.hid hO1
   refine hK _ _ ?_
   clear hK K
   (try simp only [Act.put, zD, zE, zF])
   refine wN ?_
   go_upto_region 4 with fail
   refine pR [_, .pointer (some ⟨b, o, none⟩), .pointer (some ⟨b, o + 2, none⟩)] ?_
   refine Wl.step (fun K hK => ?_)
   refine sV b o 2 [.bool true] hv ?_
   intro w2 hv' hO2
   replace hst := hst.sto hO2
   have hS2 := hS1.trans (hO2.below (by omega))
   have hz2 := hS2.size
   clear hv
   have hv := hv'
   clear hv'
   have hzz2 := hO2.size
   replace hO2 := Lib.hid hO2
   refine hK _ _ ?_
   clear hK K
   (try simp only [Act.put, zD, zE, zF])
   refine wN ?_
   go_upto_region 5 with fail
   refine pS [_, _, _] ?_
   go_wp2
   go_ret3
   exact HU.out.out (r := ⟨0, eS, false, { u with host := starS, star := true }⟩) rfl rfl rfl HU.out.ok.lo HU.out.ok.hi hv hst
  ·have HR : Hid (stScheme u s = ⟨0, eS, true, u⟩) := by
    unfold Hid stScheme
    rw [if_pos h3, if_neg hst0]
   have hst0 : s ≠ ⟨#[42]⟩ := hst0
   go_enter func66, ntmps66
   go_upto_region 0 with fail
   refine pS [_, _, _] ?_
   go_upto_region 1 with fail
   refine pR [_] ?_
   refine iL s underlying9 ?_
   refine ilT .i64 (s.size : Nat) 3 ?_
   refine wN ?_
   go_upto_region 2 with fail
   refine pR [_] ?_
   refine isF s ⟨#[42]⟩ hst0 ?_
   refine wN ?_
   go_upto_region 6 with fail
   apply wR
   refine cC func65 #[.string ⟨#[110, 111, 116, 32, 118, 97, 108, 105, 100, 32, 115, 105, 112, 32, 117, 114, 105]⟩] (errNew_c _ _) ?_
   rintro e w1 ⟨be, rfl, hb1⟩
   refine cR ?_
   obtain ⟨hS1, hz1, hy1⟩ := zC hs0 hb1
   replace hst := hst.grow hb1
   replace hv := hv.grow hb1
   refine pQ [_, _, _] ?_
   go_wp2
   go_ret3
   exact HU.out.bad (by rw [HR.out]) _ _ _ _ u.port HU.out.ok.lo HU.out.ok.hi hv hst
 ·have hc3 : Hid (∀ r, scanAt fScheme s 0 () = r → stScheme u s = (match r with | .inl (some i) => (if lowS (s.extract 0 i) ≠ sipS ∧ lowS (s.extract 0 i) ≠ sipsS then (⟨0, eS, false, { u with scheme := lowS (s.extract 0 i), raw := s.extract (i + 1) s.size }⟩ : Res) else (⟨2, s.extract (i + 1) s.size, false, { u with scheme := lowS (s.extract 0 i) }⟩ : Res)) | _ => (⟨0, eS, true, u⟩ : Res))) := by
   intro r hr
   unfold stScheme
   rw [if_neg h3, hr]
   rcases r with (_ | i) | _ <;> rfl
  go_enter func66, ntmps66
  go_upto_region 0 with fail
  refine pS [_, _, _] ?_
  go_upto_region 1 with fail
  refine pR [_] ?_
  refine iL s underlying9 ?_
  refine ilF .i64 (s.size : Nat) 3 ?_
  refine wN ?_
  go_wp2
  have hit0 : Itr (w.iter s 0) w.heap.size s 0 := World.iter_heap w s 0
  have hW2 : Below w.heap.size w (w.iter s 0) := (Below.refl w.heap.size w).alloc (Nat.le_refl _) _
  obtain ⟨ib, hib⟩ : ∃ ib, ib = w.heap.size := ⟨_, rfl⟩
  obtain ⟨wi, hwi⟩ : ∃ wi, wi = w.iter s 0 := ⟨_, rfl⟩
  rw [← hib] at hit0 ⊢
  rw [← hwi] at hit0 hW2 ⊢
  have hst2 := hst.grow hW2
  have hv2 := hv.grow hW2
  have hibz : w.heap.size ≤ ib := by omega
  clear hwi hib hW2 hst hv hs0
  go_loopw [] (fun wr => ∃ (pos : Nat), pos ≤ s.size ∧ Itr wr ib s pos ∧ VB wr b o [.string u.scheme, .string u.raw, .bool u.star, .bool u.slashes, .string u.user, .string u.pass, .string u.host, .int .i64 u.port, v8, v9] L R T ∧ Stp w.heap.size b w wr ∧ Hid (scanAt fScheme s 0 () = scanAt fScheme s pos ())) (fun wr => s.size - wr.iterPos ib)
  case atStart => exact ⟨0, Nat.zero_le _, hit0, hv2, hst2, rfl⟩
  case round =>
   clear hit0 hv2 hst2
   obtain ⟨pos, hpt, hit, hv, hst, HI⟩ := hrel
   rw [hit.pos]
   have hs0 := Below.refl 0 wr
   by_cases hlt : pos < s.size
   ·have hN := dr_le s pos
    by_cases c1 : dr s pos = 58
    ·have HR0 := Lib.hid (hc3.out _ (HI.out.trans (scan_stop (h1 := fScheme1) (h2 := fScheme2) hlt (show fScheme pos (dr s pos) () = .inl (some pos) by simp [fScheme, c1]))))
     simp only [] at HR0
     have hes : (s.extract 0 pos).size ≤ 100000000 := by simp; omega
     go_upto_region 8 with fail
     apply wR
     refine Wl.step (fun K hK => ?_)
     refine step_next rfl _ rfl ib s pos (by kernel_rfl) hit hlt ?_
     intro w1 hit' hO
     replace hv := hv.iter hit hO
     replace hst := hst.fresh hO hibz
     have hS1 : Below 0 wr w1 := hO.below (Nat.zero_le _)
     clear hit
     have hit : Itr w1 ib s (pos + dw s pos) := hit'
     clear hit' hO
     refine hK _ _ ?_
     clear hK K
     (try simp only [Act.put, zD, zE, zF])
     refine pQ [.bool true] ?_
     go_upto_region 9 with fail
     refine pS [.int .i64 (pos : Nat), .int .i32 (dr s pos : Nat), _, _] ?_
     go_upto_region 10 with fail
     refine pR [_] ?_
     refine ieT .i32 (dr s pos : Nat) 58 ?_
     refine wN ?_
     obtain ⟨sc, hsc⟩ : ∃ sc, sc = lowS (s.extract 0 pos) := ⟨_, rfl⟩
     rw [← hsc] at HR0
     have HSC := Lib.hid hsc
     clear hsc
     have hs0 := Below.refl 0 w1
     go_upto_region 11 with fail
     refine pR [_, _, _] ?_
     refine cuH s pos underlying9 ?_
     refine cC func75 #[.string (s.extract 0 ((pos)))] (asciiToLower_c _ _ hes) ?_
     rintro e w2 ⟨rfl, hb2⟩
     refine cR ?_
     obtain ⟨hS2, hz2, hy2⟩ := zC hs0 hb2
     replace hst := hst.grow hb2
     replace hv := hv.grow hb2
     rw [← HSC.out]
     refine pP [.pointer (some ⟨b, o, none⟩), .pointer (some ⟨b, o, none⟩)] ?_
     refine Wl.step (fun K hK => ?_)
     refine sV b o 0 [.string sc] hv ?_
     intro w3 hv' hO3
     replace hst := hst.sto hO3
     have hS3 := hS2.trans (hO3.below (by omega))
     have hz3 := hS3.size
     clear hv
     have hv := hv'
     clear hv'
     have hzz3 := hO3.size
     replace hO3 := Lib.hid hO3
     refine hK _ _ ?_
     clear hK K
     (try simp only [Act.put, zD, zE, zF])
     refine wN ?_
     by_cases e1 : sc = sipS
     ·have HR : Hid (stScheme u s = ⟨2, s.extract (pos + 1) s.size, false, { u with scheme := sc }⟩) := by
       have := HR0.out
       rw [if_neg (fun h => h.1 e1)] at this
       exact this
      have e1 : sc = ⟨#[115, 105, 112]⟩ := e1
      have hs0 := Below.refl 0 w3
      go_upto_region 12 with fail
      refine pR [_, .pointer (some ⟨b, o, none⟩), .pointer (some ⟨b, o, none⟩)] ?_
      refine Wl.ld (hv.cell 0 (.string sc) (by kernel_rfl)) underlying9 ?_
      refine itF sc ⟨#[115, 105, 112]⟩ e1 ?_
      refine pP [_] ?_
      refine Wl.u ?_
      refine Wl.u ?_
      refine Wl.u ?_
      refine Wl.u ?_
      refine Wl.u ?_
      refine pQ [.bool false] ?_
      go_upto_region 15 with fail
      refine wp_region_noPanic ?_
      have hSd15 := hs0.drew
      have hzd15 := hSd15.size
      have hze15 : (w3).drew.heap.size = (w3).heap.size := rfl
      refine wp_region_held_drew (S := fun w' => Below (0) w3 w') (by kernel_rfl) hSd15 (fun _ => ?_)
      replace hst := hst.grow (below_drew1 _)
      replace hv := hv.grow (below_drew1 _)
      refine tk 0 (.string s) rfl yR hSd15 ?_
      refine tk 1 (.int .i64 (pos : Nat)) rfl yR hSd15 ?_
      refine tk 2 (.int .i64 ((pos) + 1 : Nat)) rfl (yf_addN (by kernel_rfl) 3 3 _ _ rfl (pos) 1 (by kernel_rfl) (by kernel_rfl) (by omega)) hSd15 ?_
      refine tk 3 (.string (s.extract (((pos) + 1)) s.size)) rfl (yf_cut_l (by kernel_rfl) 9 underlying9 _ _ rfl s (by kernel_rfl) ((pos) + 1) (by kernel_rfl) (by omega)) hSd15 ?_
      refine tk 4 (.func (.func 76) #[] #[]) rfl yR hSd15 ?_
      refine tk 5 (.string (s.extract (((pos) + 1)) s.size)) rfl yR hSd15 ?_
      refine tk 6 .nilIface rfl yR hSd15 ?_
      refine wpAnyH_done (by kernel_rfl) ?_ _
      refine NoPanic.normal ?_
      go_wp2
      go_ret3
      rw [HR.out]
      exact HU.out.out rfl rfl rfl HU.out.ok.lo HU.out.ok.hi hv hst
     ·have e1' : sc ≠ ⟨#[115, 105, 112]⟩ := e1
      by_cases e2 : sc = sipsS
      ·have HR : Hid (stScheme u s = ⟨2, s.extract (pos + 1) s.size, false, { u with scheme := sc }⟩) := by
        have := HR0.out
        rw [if_neg (fun h => h.2 e2)] at this
        exact this
       have e2 : sc = ⟨#[115, 105, 112, 115]⟩ := e2
       have hs0 := Below.refl 0 w3
       go_upto_region 12 with fail
       refine pR [_, .pointer (some ⟨b, o, none⟩), .pointer (some ⟨b, o, none⟩)] ?_
       refine Wl.ld (hv.cell 0 (.string sc) (by kernel_rfl)) underlying9 ?_
       refine itT sc ⟨#[115, 105, 112]⟩ e1' ?_
       refine pP [_, _, .pointer (some ⟨b, o, none⟩), .pointer (some ⟨b, o, none⟩)] ?_
       refine Wl.ld (hv.cell 0 (.string sc) (by kernel_rfl)) underlying9 ?_
       refine itF sc ⟨#[115, 105, 112, 115]⟩ e2 ?_
       refine pQ [.bool false] ?_
       go_upto_region 15 with fail
       refine wp_region_noPanic ?_
       have hSd15 := hs0.drew
       have hzd15 := hSd15.size
       have hze15 : (w3).drew.heap.size = (w3).heap.size := rfl
       refine wp_region_held_drew (S := fun w' => Below (0) w3 w') (by kernel_rfl) hSd15 (fun _ => ?_)
       replace hst := hst.grow (below_drew1 _)
       replace hv := hv.grow (below_drew1 _)
       refine tk 0 (.string s) rfl yR hSd15 ?_
       refine tk 1 (.int .i64 (pos : Nat)) rfl yR hSd15 ?_
       refine tk 2 (.int .i64 ((pos) + 1 : Nat)) rfl (yf_addN (by kernel_rfl) 3 3 _ _ rfl (pos) 1 (by kernel_rfl) (by kernel_rfl) (by omega)) hSd15 ?_
       refine tk 3 (.string (s.extract (((pos) + 1)) s.size)) rfl (yf_cut_l (by kernel_rfl) 9 underlying9 _ _ rfl s (by kernel_rfl) ((pos) + 1) (by kernel_rfl) (by omega)) hSd15 ?_
       refine tk 4 (.func (.func 76) #[] #[]) rfl yR hSd15 ?_
       refine tk 5 (.string (s.extract (((pos) + 1)) s.size)) rfl yR hSd15 ?_
       refine tk 6 .nilIface rfl yR hSd15 ?_
       refine wpAnyH_done (by kernel_rfl) ?_ _
       refine NoPanic.normal ?_
       go_wp2
       go_ret3
       rw [HR.out]
       exact HU.out.out rfl rfl rfl HU.out.ok.lo HU.out.ok.hi hv hst
      ·have HR : Hid (stScheme u s = ⟨0, eS, false, { u with scheme := sc, raw := s.extract (pos + 1) s.size }⟩) := by
        have := HR0.out
        rw [if_pos ⟨e1, e2⟩] at this
        exact this
       have e2 : sc ≠ ⟨#[115, 105, 112, 115]⟩ := e2
       have hs0 := Below.refl 0 w3
       go_upto_region 12 with fail
       refine pR [_, .pointer (some ⟨b, o, none⟩), .pointer (some ⟨b, o, none⟩)] ?_
       refine Wl.ld (hv.cell 0 (.string sc) (by kernel_rfl)) underlying9 ?_
       refine itT sc ⟨#[115, 105, 112]⟩ e1' ?_
       refine pP [_, _, .pointer (some ⟨b, o, none⟩), .pointer (some ⟨b, o, none⟩)] ?_
       refine Wl.ld (hv.cell 0 (.string sc) (by kernel_rfl)) underlying9 ?_
       refine itT sc ⟨#[115, 105, 112, 115]⟩ e2 ?_
       refine pQ [.bool true] ?_
       go_upto_region 13 with fail
       refine pR [_, _, _] ?_
       refine iA pos 1 ?_
       refine cuL s ((pos) + 1) underlying9 ?_
       refine pP [.pointer (some ⟨b, o, none⟩), .pointer (some ⟨b, o + 1, none⟩)] ?_
       refine Wl.step (fun K hK => ?_)
       refine sV b o 1 [.string (s.extract (((pos) + 1)) s.size)] hv ?_
       intro w4 hv' hO4
       replace hst := hst.sto hO4
       have hS4 := hs0.trans (hO4.below (by omega))
       have hz4 := hS4.size
       clear hv
       have hv := hv'
       clear hv'
       have hzz4 := hO4.size
       replace hO4 := Lib.hid hO4
       refine hK _ _ ?_
       clear hK K
       (try simp only [Act.put, zD, zE, zF])
       refine wN ?_
       go_upto_region 14 with fail
       refine pS [_, _, _] ?_
       go_wp2
       go_ret3
       rw [HR.out]
       exact HU.out.out rfl rfl rfl HU.out.ok.lo HU.out.ok.hi hv hst
    ·cases hl : isLet (dr s pos) with
     | true =>
       obtain ⟨g1, g2, g4⟩ := scan_go (h1 := fScheme1) (h2 := fScheme2) hlt (show fScheme pos (dr s pos) () = .inr () from by simp [fScheme, c1, hl])
       have HG : Hid (scanAt fScheme s 0 () = scanAt fScheme s (pos + dw s pos) ()) := HI.out.trans g4
       clear g4 HI
       go_upto_region 8 with fail
       apply wR
       refine Wl.step (fun K hK => ?_)
       refine step_next rfl _ rfl ib s pos (by kernel_rfl) hit hlt ?_
       intro w1 hit' hO
       replace hv := hv.iter hit hO
       replace hst := hst.fresh hO hibz
       have hS1 : Below 0 wr w1 := hO.below (Nat.zero_le _)
       clear hit
       have hit : Itr w1 ib s (pos + dw s pos) := hit'
       clear hit' hO
       refine hK _ _ ?_
       clear hK K
       (try simp only [Act.put, zD, zE, zF])
       refine pQ [.bool true] ?_
       go_upto_region 9 with fail
       refine pS [.int .i64 (pos : Nat), .int .i32 (dr s pos : Nat), _, _] ?_
       go_upto_region 10 with fail
       refine pR [_] ?_
       refine ieF .i32 (dr s pos : Nat) 58 ?_
       refine wN ?_
       go_upto_region 16 with fail
       refine pR [_] ?_
       refine cC func77 #[.int .i32 ((dr s pos : Nat) : Int)] (isASCII_r _ hN _ hl _) ?_
       rintro e _ ⟨rfl, rfl⟩
       refine cR ?_
       refine pQ [.bool false] ?_
       go_wp2
       go_roundw
       case rel => exact ⟨pos + dw s pos, g1, hit, hv, hst, HG⟩
       case measure => rw [hit.pos]; omega
     | false =>
       have HR : Hid (stScheme u s = ⟨0, eS, true, u⟩) := hc3.out _ (HI.out.trans (scan_stop (h1 := fScheme1) (h2 := fScheme2) hlt (show fScheme pos (dr s pos) () = .inl none by simp [fScheme, c1, hl])))
       go_upto_region 8 with fail
       apply wR
       refine Wl.step (fun K hK => ?_)
       refine step_next rfl _ rfl ib s pos (by kernel_rfl) hit hlt ?_
       intro w1 hit' hO
       replace hv := hv.iter hit hO
       replace hst := hst.fresh hO hibz
       have hS1 : Below 0 wr w1 := hO.below (Nat.zero_le _)
       clear hit
       have hit : Itr w1 ib s (pos + dw s pos) := hit'
       clear hit' hO
       refine hK _ _ ?_
       clear hK K
       (try simp only [Act.put, zD, zE, zF])
       refine pQ [.bool true] ?_
       go_upto_region 9 with fail
       refine pS [.int .i64 (pos : Nat), .int .i32 (dr s pos : Nat), _, _] ?_
       go_upto_region 10 with fail
       refine pR [_] ?_
       refine ieF .i32 (dr s pos : Nat) 58 ?_
       refine wN ?_
       go_upto_region 16 with fail
       refine pR [_] ?_
       refine cC func77 #[.int .i32 ((dr s pos : Nat) : Int)] (isASCII_r _ hN _ hl _) ?_
       rintro e _ ⟨rfl, rfl⟩
       refine cR ?_
       refine pQ [.bool true] ?_
       go_upto_region 17 with fail
       apply wR
       refine cC func65 #[.string ⟨#[105, 110, 118, 97, 108, 105, 100, 32, 117, 114, 105, 32, 115, 99, 104, 101, 109, 101]⟩] (errNew_c _ _) ?_
       rintro e w2 ⟨be, rfl, hb2⟩
       refine cR ?_
       obtain ⟨hS2, hz2, hy2⟩ := zC hS1 hb2
       replace hst := hst.grow hb2
       replace hv := hv.grow hb2
       refine pQ [_, _, _] ?_
       go_wp2
       go_ret3
       exact HU.out.bad (by rw [HR.out]) _ _ _ _ u.port HU.out.ok.lo HU.out.ok.hi hv hst
   ·have HR : Hid (stScheme u s = ⟨0, eS, true, u⟩) := hc3.out _ (HI.out.trans (scanAt_end _ _ _ _ hlt))
    go_upto_region 8 with fail
    apply wR
    refine Wl.step (fun K hK => ?_)
    refine step_next_end rfl _ rfl ib s pos (by kernel_rfl) hit hlt ?_
    rintro _ rfl
    have hS1 := hs0
    refine hK _ _ ?_
    clear hK K
    (try simp only [Act.put, zD, zE, zF])
    refine pQ [.bool false] ?_
    go_upto_region 18 with fail
    apply wR
    refine cC func65 #[.string ⟨#[109, 105, 115, 115, 105, 110, 103, 32, 112, 114, 111, 116, 111, 99, 111, 108, 32, 115, 99, 104, 101, 109, 101]⟩] (errNew_c _ _) ?_
    rintro e w2 ⟨be, rfl, hb2⟩
    refine cR ?_
    obtain ⟨hS2, hz2, hy2⟩ := zC hS1 hb2
    replace hst := hst.grow hb2
    replace hv := hv.grow hb2
    refine pQ [_, _, _] ?_
    go_wp2
    go_ret3
    exact HU.out.bad (by rw [HR.out]) _ _ _ _ u.port HU.out.ok.lo HU.out.ok.hi hv hst
theorem Env.num {w0 : World} (h : Env w0) {s : ByteArray} {n : Int} (hn : num? s = some n) (w : World) (hw : Below w0.heap.size w0 w) (hs : s.size ≤ 100000000) :
 Calls Tryz.prog 113 #[.string s] w fun e w' => e = .returned (.tuple #[.int .i64 n, .nilIface]) ∧ (-9223372036854775808 ≤ n ∧ n ≤ 9223372036854775807) ∧ Below w.heap.size w w' :=
 (h.atoi s w hw hs).mono fun e w' ⟨v, ev, h1, h2, h3, h4⟩ => by
  rw [hn] at h3
  obtain ⟨rfl, rfl⟩ := h3
  exact ⟨h1, h2, h4⟩
theorem Env.numErr {w0 : World} (h : Env w0) {s : ByteArray} (hn : num? s = none) (w : World) (hw : Below w0.heap.size w0 w) (hs : s.size ≤ 100000000) :
 Calls Tryz.prog 113 #[.string s] w fun e w' => ∃ v t p, e = .returned (.tuple #[.int .i64 v, .iface t p]) ∧ (-9223372036854775808 ≤ v ∧ v ≤ 9223372036854775807) ∧ Below w.heap.size w w' :=
 (h.atoi s w hw hs).mono fun e w' ⟨v, ev, h1, h2, h3, h4⟩ => by
  rw [hn] at h3
  obtain ⟨t, p, rfl⟩ := h3
  exact ⟨v, t, p, h1, h2, h4⟩
theorem num_bounds {s : ByteArray} {n : Int} (h : num? s = some n) : -9223372036854775808 ≤ n ∧ n ≤ 9223372036854775807 := by
 unfold num? at h
 cases hq : Lib.atoiAll s.data.toList with
 | ok v => rw [hq] at h; simp at h; subst h; exact Lib.atoiAll_bounds hq
 | range => rw [hq] at h; simp at h
 | _ => rw [hq] at h; simp at h
theorem scan_lt {σ ρ : Type} {f : Nat → Nat → σ → ρ ⊕ σ} (g : ρ → Nat) (hf : ∀ i c st r, f i c st = .inl r → g r = i) (l : List UInt8) : ∀ (i : Nat) (st : σ) (r : ρ), scan f l i st = .inl r → i ≤ g r ∧ g r < i + l.length := by
 induction l with
 | nil => intro i st r h; simp [scan] at h
 | cons c t ih =>
   intro i st r h
   rw [scan] at h
   cases hq : f i c.toNat st with
   | inl r' =>
     rw [hq] at h
     simp at h
     subst h
     have := hf _ _ _ _ hq
     simp
     omega
   | inr st' =>
     rw [hq] at h
     have := ih _ _ _ h
     simp
     omega
theorem scanAt_lt {σ ρ : Type} {f : Nat → Nat → σ → ρ ⊕ σ} (g : ρ → Nat) (hf : ∀ i c st r, f i c st = .inl r → g r = i) {s : ByteArray} {st : σ} {r : ρ} (h : scanAt f s 0 st = .inl r) : g r < s.size := by
 have := (scan_lt g hf _ _ _ _ h).2
 simpa using this
theorem pread_le (t : ByteArray) (sp en : Nat) (l : List PV) : (pread t sp en l).1 ≤ t.size := by
 unfold pread
 cases hq : scanAt (pstep t sp en) t 0 ⟨0, 0, -1, 1, l⟩ with
 | inl r =>
   obtain ⟨i, st⟩ := r
   have := scanAt_lt (fun r : Nat × PS => r.1) (fun i c st r h => by
    unfold pstep at h
    repeat' split at h
    all_goals first | (injection h with h; subst h; rfl) | (cases h; done)) hq
   simp only [pfin]
   exact Nat.le_of_lt this
 | inr st => exact Nat.le_refl _
theorem pread_len (t : ByteArray) (sp en : Nat) (hs : sp < 128) (he : en < 128) (l : List PV) : (pread t sp en l).2.length ≤ l.length + t.size + 3 := by
 have key : ∀ (d i : Nat) (st : PS), i + d = t.size → PInv i st l.length → (match scanAt (pstep t sp en) t i st with | .inl (i, st) => (pfin t i st) | .inr st => (pfin t t.size st)).2.length ≤ l.length + t.size + 3 := by
  intro d
  induction d with
  | zero =>
    intro i st hi hp
    rw [scanAt_end _ _ _ _ (by omega)]
    have := pfin_len t t.size st
    have := hp.len
    simp only []
    omega
  | succ d ih =>
    intro i st hi hp
    rw [scanAt_step _ _ _ _ (by omega)]
    cases hq : pstep t sp en i (gb t i) st with
    | inl r =>
      obtain ⟨j, st'⟩ := r
      simp only []
      have h1 := pfin_len t j st'
      have h2 : st'.ps = st.ps := by
       unfold pstep at hq
       repeat' split at hq
       all_goals first | (injection hq with hq; injection hq with _ hq; subst hq; rfl) | (cases hq; done)
      have := hp.len
      rw [h2] at h1
      omega
    | inr st' =>
      simp only []
      exact ih (i + 1) st' (by omega) (pstep_inv hp hq)
 exact key t.size 0 ⟨0, 0, -1, 1, l⟩ (by omega) ⟨by simp, .inl rfl, .inl rfl, by simp, by simp, by simp⟩
theorem unmarshal_le (s : ByteArray) (sp en : Nat) (l : List PV) : (unmarshal s sp en l).1 ≤ s.size := Nat.le_trans (pread_le _ _ _ _) (trimL_size s)
theorem unmarshal_len (s : ByteArray) (sp en : Nat) (hs : sp < 128) (he : en < 128) (l : List PV) : (unmarshal s sp en l).2.length ≤ l.length + s.size + 3 := by
 have := pread_len (trimL s) sp en hs he l
 have := trimL_size s
 unfold unmarshal
 omega
theorem VB.at {w : World} {b o k : Nat} {A m B L R cs : List Value} {T : TypeId} (h : VB w b o cs L R T) (he : cs = A ++ m ++ B) (hk : k = A.length) : VB w b (o + k) m (L ++ A) (B ++ R) T := by
 subst he; subst hk
 refine ⟨by rw [h.off]; simp, ?_⟩
 have := h.blk
 simpa [List.append_assoc] using this
theorem VB.back {w : World} {b o k : Nat} {A m B L R cs : List Value} {T : TypeId} (h : VB w b (o + k) m (L ++ A) (B ++ R) T) (he : cs = A ++ m ++ B) (hk : k = A.length) : VB w b o cs L R T := by
 subst he; subst hk
 refine ⟨by have := h.off; simp at this; omega, ?_⟩
 have := h.blk
 simpa [List.append_assoc] using this
theorem newParams_c (w : World) : Calls Tryz.prog 114 #[] w fun e w' => ∃ v, e = .returned v ∧ Pw w.heap.size w' v [] ∧ Below w.heap.size w w' := by
 have hs0 := Below.refl w.heap.size w
 go_enter func114, ntmps114
 go_upto_region 0 with fail
 refine pS [_] ?_
 go_upto_region 1 with fail
 apply wR
 refine Wl.step (fun K hK => ?_)
 refine step_new rfl (fun b => .slice (some ⟨b, 0, none⟩) 0 4) (#[.string ⟨#[]⟩, .string ⟨#[]⟩, .string ⟨#[]⟩, .string ⟨#[]⟩, .string ⟨#[]⟩, .string ⟨#[]⟩, .string ⟨#[]⟩, .string ⟨#[]⟩]) 145 (by kernel_rfl) ?_
 intro b w1 b_ge b_lt hb hb1
 obtain ⟨hS1, hz1, hy1⟩ := zC hs0 hb1
 refine hK _ _ ?_
 clear hK K
 (try simp only [Act.put, zD, zE, zF])
 refine pQ [_] ?_
 go_wp2
 go_ret
 exact ⟨_, rfl, ⟨rfl, .inr ⟨b, 4, _, rfl, by assumption, hb, Nat.zero_le _, by unfold maxLen; omega, rfl, rfl⟩⟩, hS1⟩
theorem ext1 (t : ByteArray) (k : Nat) (hk : k < t.size) : t.extract k (k + 1) = ⟨#[93]⟩ ↔ gb t k = 93 := by
 have h1 : (t.extract k (k + 1)).data.toList = [t.data.toList[k]'(by simpa using hk)] := by
  rw [Lib.extract_data, show k + 1 - k = 1 by omega, List.drop_eq_getElem_cons (by simpa using hk)]
  rfl
 have h2 : gb t k = (t.data.toList[k]'(by simpa using hk)).toNat := by
  rw [gb_at t k hk]; rfl
 rw [h2]
 generalize t.data.toList[k]'(by simpa using hk) = c at h1
 constructor
 ·intro h
  rw [h] at h1
  have : (93 : UInt8) = c := by simpa using h1
  rw [← this]
  rfl
 ·intro h
  have hc : c = 93 := by
   apply UInt8.toNat_inj.1
   rw [h]
   rfl
  subst hc
  apply ByteArray.ext
  apply Array.ext'
  rw [h1]
theorem size_ext (s : ByteArray) (a b : Nat) (hb : b ≤ s.size) : (s.extract a b).size = b - a := by
 rw [ByteArray.size_extract]
 omega
def bra (t : ByteArray) : Option Nat := match scanAt fBra t 0 () with | .inl i => some i | .inr _ => none
theorem bra_lt {t : ByteArray} {k : Nat} (h : bra t = some k) : k < t.size := by
 unfold bra at h
 cases hq : scanAt fBra t 0 () with
 | inl i =>
   rw [hq] at h
   have := scanAt_lt (fun r : Nat => r) (fun i c st r h => by
    unfold fBra at h
    split at h
    ·injection h with h; exact h.symm
    ·cases h) hq
   simp at h
   omega
 | inr st => rw [hq] at h; simp at h
theorem zzIndex_bra (t : ByteArray) (w : World) (ht : t.size ≤ 100000000) :
 Calls Tryz.prog 112 #[.string t, .string ⟨#[93]⟩] w fun e w' => e = .returned (.int .i64 (ixV (bra t))) ∧ w = w' := by
 go_enter func112, ntmps112
 go_wp2
 go_loopw [5] (fun v5 wr => ∃ k : Nat, k ≤ t.size ∧ v5 = .int .i64 ((k : Nat) : Int) ∧ w = wr ∧ Hid (scanAt fBra t 0 () = scanAt fBra t k ())) (fun v5 _ => t.size - (intOf v5).toNat)
 case atStart => exact ⟨0, Nat.zero_le _, rfl, rfl, rfl⟩
 case round =>
  obtain ⟨k, hk, rfl, rfl, HI⟩ := hrel
  by_cases hlt : k < t.size
  ·have hs0 := Below.refl 0 w
   by_cases hc : gb t k = 93
   ·have hx := (ext1 t k hlt).2 hc
    have HR : Hid (bra t = some k) := by
     unfold Hid bra
     rw [HI.out, scanAt_step _ _ _ _ hlt]
     simp [fBra, hc]
    go_upto_region 2 with fail
    refine pR [_, _] ?_
    refine iL ⟨#[93]⟩ underlying9 ?_
    refine iA k 1 ?_
    refine pP [_] ?_
    refine iL t underlying9 ?_
    refine imT .i64 ((k) + (1) : Nat) (t.size : Nat) ?_
    refine wN ?_
    go_upto_region 4 with fail
    refine pR [_, _, _, _] ?_
    refine iL ⟨#[93]⟩ underlying9 ?_
    refine iA k 1 ?_
    refine yb (.string (t.extract ((k)) (((k) + (1))))) hs0 (yf_cut_lh (by kernel_rfl) 9 underlying9 _ _ _ rfl t (by kernel_rfl) (k) ((k) + (1)) (by kernel_rfl) (by kernel_rfl) (by omega) (by omega)) ?_
    refine pP [_] ?_
    refine isT (t.extract ((k)) (((k) + (1)))) ⟨#[93]⟩ hx ?_
    refine wN ?_
    go_upto_region 5 with fail
    refine pS [_, _] ?_
    go_wp2
    go_ret
    rw [HR.out]
    exact ⟨rfl, rfl⟩
   ·have hx : t.extract k (k + 1) ≠ ⟨#[93]⟩ := fun h => hc ((ext1 t k hlt).1 h)
    have HG : Hid (scanAt fBra t 0 () = scanAt fBra t (k + 1) ()) := by
     unfold Hid
     rw [HI.out, scanAt_step _ _ _ _ hlt]
     simp [fBra, hc]
    clear HI
    go_upto_region 2 with fail
    refine pR [_, _] ?_
    refine iL ⟨#[93]⟩ underlying9 ?_
    refine iA k 1 ?_
    refine pP [_] ?_
    refine iL t underlying9 ?_
    refine imT .i64 ((k) + (1) : Nat) (t.size : Nat) ?_
    refine wN ?_
    go_upto_region 4 with fail
    refine pR [_, _, _, _] ?_
    refine iL ⟨#[93]⟩ underlying9 ?_
    refine iA k 1 ?_
    refine yb (.string (t.extract ((k)) (((k) + (1))))) hs0 (yf_cut_lh (by kernel_rfl) 9 underlying9 _ _ _ rfl t (by kernel_rfl) (k) ((k) + (1)) (by kernel_rfl) (by kernel_rfl) (by omega) (by omega)) ?_
    refine pP [_] ?_
    refine isF (t.extract ((k)) (((k) + (1)))) ⟨#[93]⟩ hx ?_
    refine wN ?_
    go_upto_region 3 with fail
    refine pR [_] ?_
    refine iA k 1 ?_
    refine pQ [_] ?_
    go_wp2
    go_roundw
    case rel => exact ⟨k + 1, by omega, rfl, trivial, HG⟩
    case measure => simp [intOf]; omega
  ·have HR : Hid (bra t = none) := by
    unfold Hid bra
    rw [HI.out, scanAt_end _ _ _ _ hlt]
   have hs0 := Below.refl 0 w
   go_upto_region 2 with fail
   refine pR [_, _] ?_
   refine iL ⟨#[93]⟩ underlying9 ?_
   refine iA k 1 ?_
   refine pP [_] ?_
   refine iL t underlying9 ?_
   refine imF .i64 ((k) + (1) : Nat) (t.size : Nat) ?_
   refine wN ?_
   go_upto_region 6 with fail
   refine pS [_] ?_
   go_wp2
   go_ret
   rw [HR.out]
   exact ⟨rfl, rfl⟩
theorem braAt_eq (s : ByteArray) : braAt s = bra (s.extract 0 (min s.size 42)) := rfl
theorem yf_min {P : Program} {ops : Array Oper} {S : World → Prop} {o : Oper} {a : Act} (hw : Region.wanted o (yielded ops a.tmps) = true) (x y : Operand) (ts : Array TypeId) (ho : o.op = .call { callee := .builtin .min, args := #[x, y], argTypes := ts }) (m n : Nat) (hx : a.eval x = .int .i64 m) (hy : a.eval y = .int .i64 n) : YieldsIf P ops S o (.int .i64 ((min m n : Nat) : Int)) a :=
 .inl ⟨hw, fun w _ => by
  unfold execOp
  have hq : (if (n : Int) < (m : Int) then (n : Int) else (m : Int)) = ((min m n : Nat) : Int) := by split <;> omega
  simp [ho, resolve, invoke, builtin, hx, hy, Builtin.min_, Builtin.min2]
  have hq2 := hq
  simp at hq2
  first | exact hq2 | (rw [hq2]) | (split <;> simp_all <;> omega)⟩
theorem ipv6_c (b o : Nat) (L R : List Value) (T : TypeId) (u : SU) (v8 v9 : Value) (s : ByteArray) (w : World) (H : UStart w b o L R T u v8 v9) (hs : s.size ≤ 100000000) :
 Calls Tryz.prog 102 #[.pointer (some ⟨b, o, none⟩), .string s] w (SOut b o L R T w (stIPV6 u s)) := by
 have hv := H.vb
 have HU := Lib.hid H
 unfold uCells at hv
 have hst := Stp.refl w.heap.size b w
 have hs0 := Below.refl 0 w
 clear H
 have hmz : (s.extract 0 (min s.size 42)).size ≤ 100000000 := by rw [size_ext _ _ _ (by omega)]; omega
 have hms : min s.size 42 ≤ s.size := by omega
 have hz := zzIndex_bra (s.extract 0 (min s.size 42)) w hmz
 rw [← braAt_eq] at hz
 cases hb : braAt s with
 | none =>
   rw [hb] at hz
   have HZ : Hid (Calls Tryz.prog 112 #[.string (s.extract 0 (min s.size 42)), .string ⟨#[93]⟩] w fun e w' => e = .returned (.int .i64 (-1)) ∧ w = w') := hz
   have HR : Hid ((stIPV6 u s).err = true) := by unfold Hid stIPV6; rw [hb]
   clear hz hb
   go_enter func102, ntmps102
   go_upto_region 0 with fail
   refine pS [_, _, _] ?_
   go_upto_region 1 with fail
   refine pR [_] ?_
   refine iL s underlying9 ?_
   refine yb (.int .i64 ((min s.size 42 : Nat) : Int)) hs0 (yf_min (by kernel_rfl) _ _ _ rfl s.size 42 (by kernel_rfl) (by kernel_rfl)) ?_
   refine pQ [_] ?_
   go_upto_region 2 with fail
   refine pR [_, _] ?_
   refine cuH s (min s.size 42) underlying9 ?_
   refine cD func112 HZ.out ?_
   rintro e _ ⟨rfl, rfl⟩
   refine cR ?_
   refine pQ [_] ?_
   go_upto_region 3 with fail
   refine pS [_, .bool true] ?_
   go_upto_region 4 with fail
   refine pR [_] ?_
   refine cC func65 #[.string ⟨#[73, 80, 86, 54, 32, 110, 111, 32, 99, 108, 111, 115, 105, 110, 103, 32, 98, 114, 97, 99, 107, 101, 116]⟩] (errNew_c _ _) ?_
   rintro e w1 ⟨be, rfl, hb1⟩
   refine cR ?_
   obtain ⟨hS1, hz1, hy1⟩ := zC hs0 hb1
   replace hst := hst.grow hb1
   replace hv := hv.grow hb1
   refine pQ [_, _, _] ?_
   go_wp2
   go_ret3
   exact HU.out.bad HR.out _ _ _ _ u.port HU.out.ok.lo HU.out.ok.hi hv hst
 | some k =>
   have hkl := bra_lt (by rw [← braAt_eq]; exact hb)
   rw [size_ext _ _ _ (by omega)] at hkl
   cases k with
   | zero =>
     rw [hb] at hz
     have HZ : Hid (Calls Tryz.prog 112 #[.string (s.extract 0 (min s.size 42)), .string ⟨#[93]⟩] w fun e w' => e = .returned (.int .i64 0) ∧ w = w') := hz
     have HR : Hid ((stIPV6 u s).err = true) := by unfold Hid stIPV6; rw [hb]
     clear hz hb
     go_enter func102, ntmps102
     go_upto_region 0 with fail
     refine pS [_, _, _] ?_
     go_upto_region 1 with fail
     refine pR [_] ?_
     refine iL s underlying9 ?_
     refine yb (.int .i64 ((min s.size 42 : Nat) : Int)) hs0 (yf_min (by kernel_rfl) _ _ _ rfl s.size 42 (by kernel_rfl) (by kernel_rfl)) ?_
     refine pQ [_] ?_
     go_upto_region 2 with fail
     refine pR [_, _] ?_
     refine cuH s (min s.size 42) underlying9 ?_
     refine cD func112 HZ.out ?_
     rintro e _ ⟨rfl, rfl⟩
     refine cR ?_
     refine pQ [_] ?_
     go_upto_region 3 with fail
     refine pS [_, .bool true] ?_
     go_upto_region 4 with fail
     refine pR [_] ?_
     refine cC func65 #[.string ⟨#[73, 80, 86, 54, 32, 110, 111, 32, 99, 108, 111, 115, 105, 110, 103, 32, 98, 114, 97, 99, 107, 101, 116]⟩] (errNew_c _ _) ?_
     rintro e w1 ⟨be, rfl, hb1⟩
     refine cR ?_
     obtain ⟨hS1, hz1, hy1⟩ := zC hs0 hb1
     replace hst := hst.grow hb1
     replace hv := hv.grow hb1
     refine pQ [_, _, _] ?_
     go_wp2
     go_ret3
     exact HU.out.bad HR.out _ _ _ _ u.port HU.out.ok.lo HU.out.ok.hi hv hst
   | succ k =>
     rw [hb] at hz
     have HZ : Hid (Calls Tryz.prog 112 #[.string (s.extract 0 (min s.size 42)), .string ⟨#[93]⟩] w fun e w' => e = .returned (.int .i64 ((k + 1 : Nat) : Int)) ∧ w = w') := hz
     have hkl2 : k + 2 ≤ s.size := by omega
     by_cases hend : k + 2 = s.size
     ·have HR : Hid (stIPV6 u s = ⟨7, eS, false, { u with host := s.extract 0 (k + 2) }⟩) := by
       unfold Hid stIPV6
       rw [hb]
       simp only []
       rw [if_pos hend]
      clear hz hb
      rw [HR.out]
      go_enter func102, ntmps102
      go_upto_region 0 with fail
      refine pS [_, _, _] ?_
      go_upto_region 1 with fail
      refine pR [_] ?_
      refine iL s underlying9 ?_
      refine yb (.int .i64 ((min s.size 42 : Nat) : Int)) hs0 (yf_min (by kernel_rfl) _ _ _ rfl s.size 42 (by kernel_rfl) (by kernel_rfl)) ?_
      refine pQ [_] ?_
      go_upto_region 2 with fail
      refine pR [_, _] ?_
      refine cuH s (min s.size 42) underlying9 ?_
      refine cD func112 HZ.out ?_
      rintro e _ ⟨rfl, rfl⟩
      refine cR ?_
      refine pQ [_] ?_
      go_upto_region 3 with fail
      refine pR [_] ?_
      refine imF .i64 (k + 1 : Nat) 0 ?_
      refine wN ?_
      go_upto_region 5 with fail
      refine pR [_, _, _] ?_
      refine iA (k + 1) 1 ?_
      refine cuH s ((k + 1) + 1) underlying9 ?_
      refine pP [.pointer (some ⟨b, o, none⟩), .pointer (some ⟨b, o + 6, none⟩)] ?_
      refine Wl.step (fun K hK => ?_)
      refine sV b o 6 [.string (s.extract 0 (((k + 1) + 1)))] hv ?_
      intro w1 hv' hO1
      replace hst := hst.sto hO1
      have hS1 := hs0.trans (hO1.below (by omega))
      have hz1 := hS1.size
      clear hv
      have hv := hv'
      clear hv'
      have hzz1 := hO1.size
      replace hO1 := Lib.hid hO1
      refine hK _ _ ?_
      clear hK K
      (try simp only [Act.put, zD, zE, zF])
      refine wN ?_
      go_upto_region 6 with fail
      refine pR [_] ?_
      refine iA (k + 1) 1 ?_
      refine pP [_] ?_
      refine iL s underlying9 ?_
      refine ieT .i64 ((k + 1) + 1 : Nat) (s.size : Nat) ?_
      refine wN ?_
      go_upto_region 7 with fail
      refine pS [.func (.func 104) #[] #[], _, _] ?_
      go_wp2
      go_ret3
      exact HU.out.out (r := ⟨7, eS, false, { u with host := s.extract 0 (k + 2) }⟩) rfl rfl rfl HU.out.ok.lo HU.out.ok.hi hv hst
     ·obtain ⟨t, htt⟩ : ∃ t, t = s.extract (k + 2) s.size := ⟨_, rfl⟩
      have htz : t.size = s.size - (k + 2) := by rw [htt, size_ext _ _ _ (Nat.le_refl _)]
      have HR0 : Hid (stIPV6 u s = (if gb t 0 = 58 then ⟨6, t.extract 1 t.size, false, { u with host := s.extract 0 (k + 2) }⟩ else if gb t 0 = 59 then ⟨7, t.extract 1 t.size, false, { u with host := s.extract 0 (k + 2) }⟩ else if gb t 0 = 63 then ⟨8, t.extract 1 t.size, false, { u with host := s.extract 0 (k + 2) }⟩ else (⟨7, eS, false, { u with host := s.extract 0 (k + 2) }⟩ : Res))) := by
       unfold Hid stIPV6
       rw [hb]
       simp only []
       rw [if_neg hend, ← htt]
      have HTT := Lib.hid htt
      clear hz hb htt
      by_cases c1 : gb t 0 = 58
      ·have HR : Hid (stIPV6 u s = ⟨6, t.extract 1 t.size, false, { u with host := s.extract 0 (k + 2) }⟩) := by
        unfold Hid
        rw [HR0.out, if_pos c1]
        first | done | exact rfl
       rw [HR.out]
       go_enter func102, ntmps102
       go_upto_region 0 with fail
       refine pS [_, _, _] ?_
       go_upto_region 1 with fail
       refine pR [_] ?_
       refine iL s underlying9 ?_
       refine yb (.int .i64 ((min s.size 42 : Nat) : Int)) hs0 (yf_min (by kernel_rfl) _ _ _ rfl s.size 42 (by kernel_rfl) (by kernel_rfl)) ?_
       refine pQ [_] ?_
       go_upto_region 2 with fail
       refine pR [_, _] ?_
       refine cuH s (min s.size 42) underlying9 ?_
       refine cD func112 HZ.out ?_
       rintro e _ ⟨rfl, rfl⟩
       refine cR ?_
       refine pQ [_] ?_
       go_upto_region 3 with fail
       refine pR [_] ?_
       refine imF .i64 (k + 1 : Nat) 0 ?_
       refine wN ?_
       go_upto_region 5 with fail
       refine pR [_, _, _] ?_
       refine iA (k + 1) 1 ?_
       refine cuH s ((k + 1) + 1) underlying9 ?_
       refine pP [.pointer (some ⟨b, o, none⟩), .pointer (some ⟨b, o + 6, none⟩)] ?_
       refine Wl.step (fun K hK => ?_)
       refine sV b o 6 [.string (s.extract 0 (((k + 1) + 1)))] hv ?_
       intro w1 hv' hO1
       replace hst := hst.sto hO1
       have hS1 := hs0.trans (hO1.below (by omega))
       have hz1 := hS1.size
       clear hv
       have hv := hv'
       clear hv'
       have hzz1 := hO1.size
       replace hO1 := Lib.hid hO1
       refine hK _ _ ?_
       clear hK K
       (try simp only [Act.put, zD, zE, zF])
       refine wN ?_
       go_upto_region 6 with fail
       refine pR [_] ?_
       refine iA (k + 1) 1 ?_
       refine pP [_] ?_
       refine iL s underlying9 ?_
       refine ieF .i64 ((k + 1) + 1 : Nat) (s.size : Nat) ?_
       refine wN ?_
       go_upto_region 8 with fail
       refine pR [_, _] ?_
       refine iA (k + 1) 1 ?_
       refine cuL s ((k + 1) + 1) underlying9 ?_
       refine pQ [_] ?_
       have hes : s.extract (k + 1 + 1) s.size = t := HTT.out.symm
       rw [hes]
       clear hes
       have hs0 := Below.refl 0 w1
       go_upto_region 9 with fail
       refine pR [_] ?_
       refine yb (.int .u8 ((gb t 0 : Nat) : Int)) hs0 (yf_byte (by kernel_rfl) 9 underlying9 _ _ rfl t 0 (by kernel_rfl) (by kernel_rfl) (by omega)) ?_
       refine pQ [_] ?_
       go_upto_region 10 with fail
       refine pR [_] ?_
       refine ieT .u8 (gb t 0 : Nat) 58 ?_
       refine wN ?_
       go_upto_region 11 with fail
       refine wp_region_noPanic ?_
       have hSd11 := hs0.drew
       have hzd11 := hSd11.size
       have hze11 : (w1).drew.heap.size = (w1).heap.size := rfl
       refine wp_region_held_drew (S := fun w' => Below (0) w1 w') (by kernel_rfl) hSd11 (fun _ => ?_)
       replace hst := hst.grow (below_drew1 _)
       replace hv := hv.grow (below_drew1 _)
       refine tk 0 (.string t) rfl yR hSd11 ?_
       refine tk 1 (.string (t.extract 1 t.size)) rfl (yf_cut_l (by kernel_rfl) 9 underlying9 _ _ rfl t (by kernel_rfl) 1 (by kernel_rfl) (by omega)) hSd11 ?_
       refine tk 2 (.func (.func 103) #[] #[]) rfl yR hSd11 ?_
       refine tk 3 (.string (t.extract 1 t.size)) rfl yR hSd11 ?_
       refine tk 4 .nilIface rfl yR hSd11 ?_
       refine wpAnyH_done (by kernel_rfl) ?_ _
       refine NoPanic.normal ?_
       go_wp2
       go_ret3
       exact HU.out.out (r := ⟨6, t.extract 1 t.size, false, { u with host := s.extract 0 (k + 2) }⟩) rfl rfl rfl HU.out.ok.lo HU.out.ok.hi hv hst
      ·by_cases c2 : gb t 0 = 59
       ·have HR : Hid (stIPV6 u s = ⟨7, t.extract 1 t.size, false, { u with host := s.extract 0 (k + 2) }⟩) := by
         unfold Hid
         rw [HR0.out, if_neg c1, if_pos c2]
         first | done | exact rfl
        rw [HR.out]
        go_enter func102, ntmps102
        go_upto_region 0 with fail
        refine pS [_, _, _] ?_
        go_upto_region 1 with fail
        refine pR [_] ?_
        refine iL s underlying9 ?_
        refine yb (.int .i64 ((min s.size 42 : Nat) : Int)) hs0 (yf_min (by kernel_rfl) _ _ _ rfl s.size 42 (by kernel_rfl) (by kernel_rfl)) ?_
        refine pQ [_] ?_
        go_upto_region 2 with fail
        refine pR [_, _] ?_
        refine cuH s (min s.size 42) underlying9 ?_
        refine cD func112 HZ.out ?_
        rintro e _ ⟨rfl, rfl⟩
        refine cR ?_
        refine pQ [_] ?_
        go_upto_region 3 with fail
        refine pR [_] ?_
        refine imF .i64 (k + 1 : Nat) 0 ?_
        refine wN ?_
        go_upto_region 5 with fail
        refine pR [_, _, _] ?_
        refine iA (k + 1) 1 ?_
        refine cuH s ((k + 1) + 1) underlying9 ?_
        refine pP [.pointer (some ⟨b, o, none⟩), .pointer (some ⟨b, o + 6, none⟩)] ?_
        refine Wl.step (fun K hK => ?_)
        refine sV b o 6 [.string (s.extract 0 (((k + 1) + 1)))] hv ?_
        intro w1 hv' hO1
        replace hst := hst.sto hO1
        have hS1 := hs0.trans (hO1.below (by omega))
        have hz1 := hS1.size
        clear hv
        have hv := hv'
        clear hv'
        have hzz1 := hO1.size
        replace hO1 := Lib.hid hO1
        refine hK _ _ ?_
        clear hK K
        (try simp only [Act.put, zD, zE, zF])
        refine wN ?_
        go_upto_region 6 with fail
        refine pR [_] ?_
        refine iA (k + 1) 1 ?_
        refine pP [_] ?_
        refine iL s underlying9 ?_
        refine ieF .i64 ((k + 1) + 1 : Nat) (s.size : Nat) ?_
        refine wN ?_
        go_upto_region 8 with fail
        refine pR [_, _] ?_
        refine iA (k + 1) 1 ?_
        refine cuL s ((k + 1) + 1) underlying9 ?_
        refine pQ [_] ?_
        have hes : s.extract (k + 1 + 1) s.size = t := HTT.out.symm
        rw [hes]
        clear hes
        have hs0 := Below.refl 0 w1
        go_upto_region 9 with fail
        refine pR [_] ?_
        refine yb (.int .u8 ((gb t 0 : Nat) : Int)) hs0 (yf_byte (by kernel_rfl) 9 underlying9 _ _ rfl t 0 (by kernel_rfl) (by kernel_rfl) (by omega)) ?_
        refine pQ [_] ?_
        go_upto_region 10 with fail
        refine pR [_] ?_
        refine ieF .u8 (gb t 0 : Nat) 58 ?_
        refine wN ?_
        go_upto_region 12 with fail
        refine pR [_] ?_
        refine ieT .u8 (gb t 0 : Nat) 59 ?_
        refine wN ?_
        go_upto_region 13 with fail
        refine wp_region_noPanic ?_
        have hSd13 := hs0.drew
        have hzd13 := hSd13.size
        have hze13 : (w1).drew.heap.size = (w1).heap.size := rfl
        refine wp_region_held_drew (S := fun w' => Below (0) w1 w') (by kernel_rfl) hSd13 (fun _ => ?_)
        replace hst := hst.grow (below_drew1 _)
        replace hv := hv.grow (below_drew1 _)
        refine tk 0 (.string t) rfl yR hSd13 ?_
        refine tk 1 (.string (t.extract 1 t.size)) rfl (yf_cut_l (by kernel_rfl) 9 underlying9 _ _ rfl t (by kernel_rfl) 1 (by kernel_rfl) (by omega)) hSd13 ?_
        refine tk 2 (.func (.func 104) #[] #[]) rfl yR hSd13 ?_
        refine tk 3 (.string (t.extract 1 t.size)) rfl yR hSd13 ?_
        refine tk 4 .nilIface rfl yR hSd13 ?_
        refine wpAnyH_done (by kernel_rfl) ?_ _
        refine NoPanic.normal ?_
        go_wp2
        go_ret3
        exact HU.out.out (r := ⟨7, t.extract 1 t.size, false, { u with host := s.extract 0 (k + 2) }⟩) rfl rfl rfl HU.out.ok.lo HU.out.ok.hi hv hst
       ·by_cases c3 : gb t 0 = 63
        ·have HR : Hid (stIPV6 u s = ⟨8, t.extract 1 t.size, false, { u with host := s.extract 0 (k + 2) }⟩) := by
          unfold Hid
          rw [HR0.out, if_neg c1, if_neg c2, if_pos c3]
          first | done | exact rfl
         rw [HR.out]
         go_enter func102, ntmps102
         go_upto_region 0 with fail
         refine pS [_, _, _] ?_
         go_upto_region 1 with fail
         refine pR [_] ?_
         refine iL s underlying9 ?_
         refine yb (.int .i64 ((min s.size 42 : Nat) : Int)) hs0 (yf_min (by kernel_rfl) _ _ _ rfl s.size 42 (by kernel_rfl) (by kernel_rfl)) ?_
         refine pQ [_] ?_
         go_upto_region 2 with fail
         refine pR [_, _] ?_
         refine cuH s (min s.size 42) underlying9 ?_
         refine cD func112 HZ.out ?_
         rintro e _ ⟨rfl, rfl⟩
         refine cR ?_
         refine pQ [_] ?_
         go_upto_region 3 with fail
         refine pR [_] ?_
         refine imF .i64 (k + 1 : Nat) 0 ?_
         refine wN ?_
         go_upto_region 5 with fail
         refine pR [_, _, _] ?_
         refine iA (k + 1) 1 ?_
         refine cuH s ((k + 1) + 1) underlying9 ?_
         refine pP [.pointer (some ⟨b, o, none⟩), .pointer (some ⟨b, o + 6, none⟩)] ?_
         refine Wl.step (fun K hK => ?_)
         refine sV b o 6 [.string (s.extract 0 (((k + 1) + 1)))] hv ?_
         intro w1 hv' hO1
         replace hst := hst.sto hO1
         have hS1 := hs0.trans (hO1.below (by omega))
         have hz1 := hS1.size
         clear hv
         have hv := hv'
         clear hv'
         have hzz1 := hO1.size
         replace hO1 := Lib.hid hO1
         refine hK _ _ ?_
         clear hK K
         (try simp only [Act.put, zD, zE, zF])
         refine wN ?_
         go_upto_region 6 with fail
         refine pR [_] ?_
         refine iA (k + 1) 1 ?_
         refine pP [_] ?_
         refine iL s underlying9 ?_
         refine ieF .i64 ((k + 1) + 1 : Nat) (s.size : Nat) ?_
         refine wN ?_
         go_upto_region 8 with fail
         refine pR [_, _] ?_
         refine iA (k + 1) 1 ?_
         refine cuL s ((k + 1) + 1) underlying9 ?_
         refine pQ [_] ?_
         have hes : s.extract (k + 1 + 1) s.size = t := HTT.out.symm
         rw [hes]
         clear hes
         have hs0 := Below.refl 0 w1
         go_upto_region 9 with fail
         refine pR [_] ?_
         refine yb (.int .u8 ((gb t 0 : Nat) : Int)) hs0 (yf_byte (by kernel_rfl) 9 underlying9 _ _ rfl t 0 (by kernel_rfl) (by kernel_rfl) (by omega)) ?_
         refine pQ [_] ?_
         go_upto_region 10 with fail
         refine pR [_] ?_
         refine ieF .u8 (gb t 0 : Nat) 58 ?_
         refine wN ?_
         go_upto_region 12 with fail
         refine pR [_] ?_
         refine ieF .u8 (gb t 0 : Nat) 59 ?_
         refine wN ?_
         go_upto_region 14 with fail
         refine pR [_] ?_
         refine ieT .u8 (gb t 0 : Nat) 63 ?_
         refine wN ?_
         go_upto_region 15 with fail
         refine wp_region_noPanic ?_
         have hSd15 := hs0.drew
         have hzd15 := hSd15.size
         have hze15 : (w1).drew.heap.size = (w1).heap.size := rfl
         refine wp_region_held_drew (S := fun w' => Below (0) w1 w') (by kernel_rfl) hSd15 (fun _ => ?_)
         replace hst := hst.grow (below_drew1 _)
         replace hv := hv.grow (below_drew1 _)
         refine tk 0 (.string t) rfl yR hSd15 ?_
         refine tk 1 (.string (t.extract 1 t.size)) rfl (yf_cut_l (by kernel_rfl) 9 underlying9 _ _ rfl t (by kernel_rfl) 1 (by kernel_rfl) (by omega)) hSd15 ?_
         refine tk 2 (.func (.func 105) #[] #[]) rfl yR hSd15 ?_
         refine tk 3 (.string (t.extract 1 t.size)) rfl yR hSd15 ?_
         refine tk 4 .nilIface rfl yR hSd15 ?_
         refine wpAnyH_done (by kernel_rfl) ?_ _
         refine NoPanic.normal ?_
         go_wp2
         go_ret3
         exact HU.out.out (r := ⟨8, t.extract 1 t.size, false, { u with host := s.extract 0 (k + 2) }⟩) rfl rfl rfl HU.out.ok.lo HU.out.ok.hi hv hst
        ·have HR : Hid (stIPV6 u s = ⟨7, eS, false, { u with host := s.extract 0 (k + 2) }⟩) := by
          unfold Hid
          rw [HR0.out, if_neg c1, if_neg c2, if_neg c3]
          first | done | exact rfl
         rw [HR.out]
         go_enter func102, ntmps102
         go_upto_region 0 with fail
         refine pS [_, _, _] ?_
         go_upto_region 1 with fail
         refine pR [_] ?_
         refine iL s underlying9 ?_
         refine yb (.int .i64 ((min s.size 42 : Nat) : Int)) hs0 (yf_min (by kernel_rfl) _ _ _ rfl s.size 42 (by kernel_rfl) (by kernel_rfl)) ?_
         refine pQ [_] ?_
         go_upto_region 2 with fail
         refine pR [_, _] ?_
         refine cuH s (min s.size 42) underlying9 ?_
         refine cD func112 HZ.out ?_
         rintro e _ ⟨rfl, rfl⟩
         refine cR ?_
         refine pQ [_] ?_
         go_upto_region 3 with fail
         refine pR [_] ?_
         refine imF .i64 (k + 1 : Nat) 0 ?_
         refine wN ?_
         go_upto_region 5 with fail
         refine pR [_, _, _] ?_
         refine iA (k + 1) 1 ?_
         refine cuH s ((k + 1) + 1) underlying9 ?_
         refine pP [.pointer (some ⟨b, o, none⟩), .pointer (some ⟨b, o + 6, none⟩)] ?_
         refine Wl.step (fun K hK => ?_)
         refine sV b o 6 [.string (s.extract 0 (((k + 1) + 1)))] hv ?_
         intro w1 hv' hO1
         replace hst := hst.sto hO1
         have hS1 := hs0.trans (hO1.below (by omega))
         have hz1 := hS1.size
         clear hv
         have hv := hv'
         clear hv'
         have hzz1 := hO1.size
         replace hO1 := Lib.hid hO1
         refine hK _ _ ?_
         clear hK K
         (try simp only [Act.put, zD, zE, zF])
         refine wN ?_
         go_upto_region 6 with fail
         refine pR [_] ?_
         refine iA (k + 1) 1 ?_
         refine pP [_] ?_
         refine iL s underlying9 ?_
         refine ieF .i64 ((k + 1) + 1 : Nat) (s.size : Nat) ?_
         refine wN ?_
         go_upto_region 8 with fail
         refine pR [_, _] ?_
         refine iA (k + 1) 1 ?_
         refine cuL s ((k + 1) + 1) underlying9 ?_
         refine pQ [_] ?_
         have hes : s.extract (k + 1 + 1) s.size = t := HTT.out.symm
         rw [hes]
         clear hes
         have hs0 := Below.refl 0 w1
         go_upto_region 9 with fail
         refine pR [_] ?_
         refine yb (.int .u8 ((gb t 0 : Nat) : Int)) hs0 (yf_byte (by kernel_rfl) 9 underlying9 _ _ rfl t 0 (by kernel_rfl) (by kernel_rfl) (by omega)) ?_
         refine pQ [_] ?_
         go_upto_region 10 with fail
         refine pR [_] ?_
         refine ieF .u8 (gb t 0 : Nat) 58 ?_
         refine wN ?_
         go_upto_region 12 with fail
         refine pR [_] ?_
         refine ieF .u8 (gb t 0 : Nat) 59 ?_
         refine wN ?_
         go_upto_region 14 with fail
         refine pR [_] ?_
         refine ieF .u8 (gb t 0 : Nat) 63 ?_
         refine wN ?_
         go_upto_region 16 with fail
         refine pS [.func (.func 104) #[] #[], _, _] ?_
         go_wp2
         go_ret3
         exact HU.out.out (r := ⟨7, eS, false, { u with host := s.extract 0 (k + 2) }⟩) rfl rfl rfl HU.out.ok.lo HU.out.ok.hi hv hst
theorem fHost1 : ∀ i c c' st, 128 ≤ c → 128 ≤ c' → fHost i c st = fHost i c' st := by
 intro i c c' st h h'
 unfold fHost
 rw [if_neg (show ¬ c = 91 by omega), if_neg (show ¬ c = 58 by omega), if_neg (show ¬ c = 59 by omega), if_neg (show ¬ c = 63 by omega), if_neg (show ¬ c' = 91 by omega), if_neg (show ¬ c' = 58 by omega), if_neg (show ¬ c' = 59 by omega), if_neg (show ¬ c' = 63 by omega)]
theorem fHost2 : ∀ i c st st', 128 ≤ c → fHost i c st = .inr st' → ∀ j c', 128 ≤ c' → fHost j c' st' = .inr st' := by
 intro i c st st' h he j c' h'
 unfold fHost
 rw [if_neg (show ¬ c' = 91 by omega), if_neg (show ¬ c' = 58 by omega), if_neg (show ¬ c' = 59 by omega), if_neg (show ¬ c' = 63 by omega)]
theorem fPort1 : ∀ i c c' st, 128 ≤ c → 128 ≤ c' → fPort i c st = fPort i c' st := by
 intro i c c' st h h'
 unfold fPort
 rw [if_neg (show ¬ c = 59 by omega), if_neg (show ¬ c = 63 by omega), if_neg (show ¬ c' = 59 by omega), if_neg (show ¬ c' = 63 by omega)]
theorem fPort2 : ∀ i c st st', 128 ≤ c → fPort i c st = .inr st' → ∀ j c', 128 ≤ c' → fPort j c' st' = .inr st' := by
 intro i c st st' h he j c' h'
 unfold fPort
 rw [if_neg (show ¬ c' = 59 by omega), if_neg (show ¬ c' = 63 by omega)]
theorem host_c (b o : Nat) (L R : List Value) (T : TypeId) (u : SU) (v8 v9 : Value) (s : ByteArray) (w : World) (H : UStart w b o L R T u v8 v9) (hs : s.size ≤ 100000000) :
 Calls Tryz.prog 94 #[.pointer (some ⟨b, o, none⟩), .string s] w (SOut b o L R T w (stHost u s)) := by
 have hv := H.vb
 have HU := Lib.hid H
 unfold uCells at hv
 have hst := Stp.refl w.heap.size b w
 have hs0 := Below.refl 0 w
 clear H
 go_enter func94, ntmps94
 go_wp2
 have hit0 : Itr (w.iter s 0) w.heap.size s 0 := World.iter_heap w s 0
 have hW2 : Below w.heap.size w (w.iter s 0) := (Below.refl w.heap.size w).alloc (Nat.le_refl _) _
 obtain ⟨ib, hib⟩ : ∃ ib, ib = w.heap.size := ⟨_, rfl⟩
 obtain ⟨wi, hwi⟩ : ∃ wi, wi = w.iter s 0 := ⟨_, rfl⟩
 rw [← hib] at hit0 ⊢
 rw [← hwi] at hit0 hW2 ⊢
 have hst2 := hst.grow hW2
 have hv2 := hv.grow hW2
 have hibz : w.heap.size ≤ ib := by omega
 clear hwi hib hW2 hst hv hs0
 go_loopw [] (fun wr => ∃ (pos : Nat), pos ≤ s.size ∧ Itr wr ib s pos ∧ VB wr b o [.string u.scheme, .string u.raw, .bool u.star, .bool u.slashes, .string u.user, .string u.pass, .string u.host, .int .i64 u.port, v8, v9] L R T ∧ Stp w.heap.size b w wr ∧ Hid (scanAt fHost s 0 () = scanAt fHost s pos ())) (fun wr => s.size - wr.iterPos ib)
 case atStart => exact ⟨0, Nat.zero_le _, hit0, hv2, hst2, rfl⟩
 case round =>
  clear hit0 hv2 hst2
  obtain ⟨pos, hpt, hit, hv, hst, HI⟩ := hrel
  rw [hit.pos]
  have hs0 := Below.refl 0 wr
  by_cases hlt : pos < s.size
  ·have hN := dr_le s pos
   by_cases c1 : dr s pos = 91
   ·have HR : Hid (stHost u s = ⟨5, s.extract pos s.size, false, u⟩) := by
     unfold Hid stHost
     rw [HI.out, scan_stop (h1 := fHost1) (h2 := fHost2) hlt (show fHost pos (dr s pos) () = .inl (5, pos) by simp [fHost, c1])]
     rfl
    go_upto_region 2 with fail
    apply wR
    refine Wl.step (fun K hK => ?_)
    refine step_next rfl _ rfl ib s pos (by kernel_rfl) hit hlt ?_
    intro w1 hit' hO
    replace hv := hv.iter hit hO
    replace hst := hst.fresh hO hibz
    have hS1 : Below 0 wr w1 := hO.below (Nat.zero_le _)
    clear hit
    have hit : Itr w1 ib s (pos + dw s pos) := hit'
    clear hit' hO
    refine hK _ _ ?_
    clear hK K
    (try simp only [Act.put, zD, zE, zF])
    refine pQ [.bool true] ?_
    go_upto_region 3 with fail
    refine pS [.int .i64 (pos : Nat), .int .i32 (dr s pos : Nat), _, _] ?_
    go_upto_region 4 with fail
    refine pR [_] ?_
    refine ieT .i32 (dr s pos : Nat) 91 ?_
    refine wN ?_
    go_upto_region 5 with fail
    refine wp_region_noPanic ?_
    have hSd5 := hS1.drew
    have hzd5 := hSd5.size
    have hze5 : (w1).drew.heap.size = (w1).heap.size := rfl
    refine wp_region_held_drew (S := fun w' => Below (0) wr w') (by kernel_rfl) hSd5 (fun _ => ?_)
    replace hst := hst.grow (below_drew1 _)
    replace hv := hv.grow (below_drew1 _)
    refine tk 0 (.string s) rfl yR hSd5 ?_
    refine tk 1 (.int .i64 (pos : Nat)) rfl yR hSd5 ?_
    refine tk 2 (.string (s.extract ((pos)) s.size)) rfl (yf_cut_l (by kernel_rfl) 9 underlying9 _ _ rfl s (by kernel_rfl) (pos) (by kernel_rfl) (by omega)) hSd5 ?_
    refine tk 3 (.func (.func 102) #[] #[]) rfl yR hSd5 ?_
    refine tk 4 (.string (s.extract ((pos)) s.size)) rfl yR hSd5 ?_
    refine tk 5 .nilIface rfl yR hSd5 ?_
    refine wpAnyH_done (by kernel_rfl) ?_ _
    refine NoPanic.normal ?_
    go_wp2
    go_ret3
    rw [HR.out]
    exact HU.out.out rfl rfl rfl HU.out.ok.lo HU.out.ok.hi hv hst
   ·by_cases c2 : dr s pos = 58
    ·have HR : Hid (stHost u s = ⟨6, s.extract (pos + 1) s.size, false, { u with host := s.extract 0 pos }⟩) := by
      unfold Hid stHost
      rw [HI.out, scan_stop (h1 := fHost1) (h2 := fHost2) hlt (show fHost pos (dr s pos) () = .inl (6, pos) by simp [fHost, c2])]
      rfl
     go_upto_region 2 with fail
     apply wR
     refine Wl.step (fun K hK => ?_)
     refine step_next rfl _ rfl ib s pos (by kernel_rfl) hit hlt ?_
     intro w1 hit' hO
     replace hv := hv.iter hit hO
     replace hst := hst.fresh hO hibz
     have hS1 : Below 0 wr w1 := hO.below (Nat.zero_le _)
     clear hit
     have hit : Itr w1 ib s (pos + dw s pos) := hit'
     clear hit' hO
     refine hK _ _ ?_
     clear hK K
     (try simp only [Act.put, zD, zE, zF])
     refine pQ [.bool true] ?_
     go_upto_region 3 with fail
     refine pS [.int .i64 (pos : Nat), .int .i32 (dr s pos : Nat), _, _] ?_
     go_upto_region 4 with fail
     refine pR [_] ?_
     refine ieF .i32 (dr s pos : Nat) 91 ?_
     refine wN ?_
     go_upto_region 6 with fail
     refine pR [_] ?_
     refine ieT .i32 (dr s pos : Nat) 58 ?_
     refine wN ?_
     go_upto_region 7 with fail
     refine pR [_, _, _] ?_
     refine cuH s pos underlying9 ?_
     refine pP [.pointer (some ⟨b, o, none⟩), .pointer (some ⟨b, o + 6, none⟩)] ?_
     refine Wl.step (fun K hK => ?_)
     refine sV b o 6 [.string (s.extract 0 ((pos)))] hv ?_
     intro w2 hv' hO2
     replace hst := hst.sto hO2
     have hS2 := hS1.trans (hO2.below (by omega))
     have hz2 := hS2.size
     clear hv
     have hv := hv'
     clear hv'
     have hzz2 := hO2.size
     replace hO2 := Lib.hid hO2
     refine hK _ _ ?_
     clear hK K
     (try simp only [Act.put, zD, zE, zF])
     refine wN ?_
     go_upto_region 8 with fail
     refine wp_region_noPanic ?_
     have hSd8 := hS2.drew
     have hzd8 := hSd8.size
     have hze8 : (w2).drew.heap.size = (w2).heap.size := rfl
     refine wp_region_held_drew (S := fun w' => Below (0) wr w') (by kernel_rfl) hSd8 (fun _ => ?_)
     replace hst := hst.grow (below_drew1 _)
     replace hv := hv.grow (below_drew1 _)
     refine tk 0 (.string s) rfl yR hSd8 ?_
     refine tk 1 (.int .i64 (pos : Nat)) rfl yR hSd8 ?_
     refine tk 2 (.int .i64 ((pos) + 1 : Nat)) rfl (yf_addN (by kernel_rfl) 3 3 _ _ rfl (pos) 1 (by kernel_rfl) (by kernel_rfl) (by omega)) hSd8 ?_
     refine tk 3 (.string (s.extract (((pos) + 1)) s.size)) rfl (yf_cut_l (by kernel_rfl) 9 underlying9 _ _ rfl s (by kernel_rfl) ((pos) + 1) (by kernel_rfl) (by omega)) hSd8 ?_
     refine tk 4 (.func (.func 103) #[] #[]) rfl yR hSd8 ?_
     refine tk 5 (.string (s.extract (((pos) + 1)) s.size)) rfl yR hSd8 ?_
     refine tk 6 .nilIface rfl yR hSd8 ?_
     refine wpAnyH_done (by kernel_rfl) ?_ _
     refine NoPanic.normal ?_
     go_wp2
     go_ret3
     rw [HR.out]
     exact HU.out.out rfl rfl rfl HU.out.ok.lo HU.out.ok.hi hv hst
    ·by_cases c3 : dr s pos = 59
     ·have HR : Hid (stHost u s = ⟨7, s.extract (pos + 1) s.size, false, { u with host := s.extract 0 pos }⟩) := by
       unfold Hid stHost
       rw [HI.out, scan_stop (h1 := fHost1) (h2 := fHost2) hlt (show fHost pos (dr s pos) () = .inl (7, pos) by simp [fHost, c3])]
       rfl
      go_upto_region 2 with fail
      apply wR
      refine Wl.step (fun K hK => ?_)
      refine step_next rfl _ rfl ib s pos (by kernel_rfl) hit hlt ?_
      intro w1 hit' hO
      replace hv := hv.iter hit hO
      replace hst := hst.fresh hO hibz
      have hS1 : Below 0 wr w1 := hO.below (Nat.zero_le _)
      clear hit
      have hit : Itr w1 ib s (pos + dw s pos) := hit'
      clear hit' hO
      refine hK _ _ ?_
      clear hK K
      (try simp only [Act.put, zD, zE, zF])
      refine pQ [.bool true] ?_
      go_upto_region 3 with fail
      refine pS [.int .i64 (pos : Nat), .int .i32 (dr s pos : Nat), _, _] ?_
      go_upto_region 4 with fail
      refine pR [_] ?_
      refine ieF .i32 (dr s pos : Nat) 91 ?_
      refine wN ?_
      go_upto_region 6 with fail
      refine pR [_] ?_
      refine ieF .i32 (dr s pos : Nat) 58 ?_
      refine wN ?_
      go_upto_region 9 with fail
      refine pR [_] ?_
      refine ieT .i32 (dr s pos : Nat) 59 ?_
      refine wN ?_
      go_upto_region 10 with fail
      refine pR [_, _, _] ?_
      refine cuH s pos underlying9 ?_
      refine pP [.pointer (some ⟨b, o, none⟩), .pointer (some ⟨b, o + 6, none⟩)] ?_
      refine Wl.step (fun K hK => ?_)
      refine sV b o 6 [.string (s.extract 0 ((pos)))] hv ?_
      intro w2 hv' hO2
      replace hst := hst.sto hO2
      have hS2 := hS1.trans (hO2.below (by omega))
      have hz2 := hS2.size
      clear hv
      have hv := hv'
      clear hv'
      have hzz2 := hO2.size
      replace hO2 := Lib.hid hO2
      refine hK _ _ ?_
      clear hK K
      (try simp only [Act.put, zD, zE, zF])
      refine wN ?_
      go_upto_region 11 with fail
      refine wp_region_noPanic ?_
      have hSd11 := hS2.drew
      have hzd11 := hSd11.size
      have hze11 : (w2).drew.heap.size = (w2).heap.size := rfl
      refine wp_region_held_drew (S := fun w' => Below (0) wr w') (by kernel_rfl) hSd11 (fun _ => ?_)
      replace hst := hst.grow (below_drew1 _)
      replace hv := hv.grow (below_drew1 _)
      refine tk 0 (.string s) rfl yR hSd11 ?_
      refine tk 1 (.int .i64 (pos : Nat)) rfl yR hSd11 ?_
      refine tk 2 (.int .i64 ((pos) + 1 : Nat)) rfl (yf_addN (by kernel_rfl) 3 3 _ _ rfl (pos) 1 (by kernel_rfl) (by kernel_rfl) (by omega)) hSd11 ?_
      refine tk 3 (.string (s.extract (((pos) + 1)) s.size)) rfl (yf_cut_l (by kernel_rfl) 9 underlying9 _ _ rfl s (by kernel_rfl) ((pos) + 1) (by kernel_rfl) (by omega)) hSd11 ?_
      refine tk 4 (.func (.func 104) #[] #[]) rfl yR hSd11 ?_
      refine tk 5 (.string (s.extract (((pos) + 1)) s.size)) rfl yR hSd11 ?_
      refine tk 6 .nilIface rfl yR hSd11 ?_
      refine wpAnyH_done (by kernel_rfl) ?_ _
      refine NoPanic.normal ?_
      go_wp2
      go_ret3
      rw [HR.out]
      exact HU.out.out rfl rfl rfl HU.out.ok.lo HU.out.ok.hi hv hst
     ·by_cases c4 : dr s pos = 63
      ·have HR : Hid (stHost u s = ⟨8, s.extract (pos + 1) s.size, false, { u with host := s.extract 0 pos }⟩) := by
        unfold Hid stHost
        rw [HI.out, scan_stop (h1 := fHost1) (h2 := fHost2) hlt (show fHost pos (dr s pos) () = .inl (8, pos) by simp [fHost, c4])]
        rfl
       go_upto_region 2 with fail
       apply wR
       refine Wl.step (fun K hK => ?_)
       refine step_next rfl _ rfl ib s pos (by kernel_rfl) hit hlt ?_
       intro w1 hit' hO
       replace hv := hv.iter hit hO
       replace hst := hst.fresh hO hibz
       have hS1 : Below 0 wr w1 := hO.below (Nat.zero_le _)
       clear hit
       have hit : Itr w1 ib s (pos + dw s pos) := hit'
       clear hit' hO
       refine hK _ _ ?_
       clear hK K
       (try simp only [Act.put, zD, zE, zF])
       refine pQ [.bool true] ?_
       go_upto_region 3 with fail
       refine pS [.int .i64 (pos : Nat), .int .i32 (dr s pos : Nat), _, _] ?_
       go_upto_region 4 with fail
       refine pR [_] ?_
       refine ieF .i32 (dr s pos : Nat) 91 ?_
       refine wN ?_
       go_upto_region 6 with fail
       refine pR [_] ?_
       refine ieF .i32 (dr s pos : Nat) 58 ?_
       refine wN ?_
       go_upto_region 9 with fail
       refine pR [_] ?_
       refine ieF .i32 (dr s pos : Nat) 59 ?_
       refine wN ?_
       go_upto_region 12 with fail
       refine pR [_] ?_
       refine ieT .i32 (dr s pos : Nat) 63 ?_
       refine wN ?_
       go_upto_region 13 with fail
       refine pR [_, _, _] ?_
       refine cuH s pos underlying9 ?_
       refine pP [.pointer (some ⟨b, o, none⟩), .pointer (some ⟨b, o + 6, none⟩)] ?_
       refine Wl.step (fun K hK => ?_)
       refine sV b o 6 [.string (s.extract 0 ((pos)))] hv ?_
       intro w2 hv' hO2
       replace hst := hst.sto hO2
       have hS2 := hS1.trans (hO2.below (by omega))
       have hz2 := hS2.size
       clear hv
       have hv := hv'
       clear hv'
       have hzz2 := hO2.size
       replace hO2 := Lib.hid hO2
       refine hK _ _ ?_
       clear hK K
       (try simp only [Act.put, zD, zE, zF])
       refine wN ?_
       go_upto_region 14 with fail
       refine wp_region_noPanic ?_
       have hSd14 := hS2.drew
       have hzd14 := hSd14.size
       have hze14 : (w2).drew.heap.size = (w2).heap.size := rfl
       refine wp_region_held_drew (S := fun w' => Below (0) wr w') (by kernel_rfl) hSd14 (fun _ => ?_)
       replace hst := hst.grow (below_drew1 _)
       replace hv := hv.grow (below_drew1 _)
       refine tk 0 (.string s) rfl yR hSd14 ?_
       refine tk 1 (.int .i64 (pos : Nat)) rfl yR hSd14 ?_
       refine tk 2 (.int .i64 ((pos) + 1 : Nat)) rfl (yf_addN (by kernel_rfl) 3 3 _ _ rfl (pos) 1 (by kernel_rfl) (by kernel_rfl) (by omega)) hSd14 ?_
       refine tk 3 (.string (s.extract (((pos) + 1)) s.size)) rfl (yf_cut_l (by kernel_rfl) 9 underlying9 _ _ rfl s (by kernel_rfl) ((pos) + 1) (by kernel_rfl) (by omega)) hSd14 ?_
       refine tk 4 (.func (.func 105) #[] #[]) rfl yR hSd14 ?_
       refine tk 5 (.string (s.extract (((pos) + 1)) s.size)) rfl yR hSd14 ?_
       refine tk 6 .nilIface rfl yR hSd14 ?_
       refine wpAnyH_done (by kernel_rfl) ?_ _
       refine NoPanic.normal ?_
       go_wp2
       go_ret3
       rw [HR.out]
       exact HU.out.out rfl rfl rfl HU.out.ok.lo HU.out.ok.hi hv hst
      ·obtain ⟨g1, g2, g4⟩ := scan_go (h1 := fHost1) (h2 := fHost2) hlt (show fHost pos (dr s pos) () = .inr () from by simp [fHost, c1, c2, c3, c4])
       have HG : Hid (scanAt fHost s 0 () = scanAt fHost s (pos + dw s pos) ()) := HI.out.trans g4
       clear g4 HI
       go_upto_region 2 with fail
       apply wR
       refine Wl.step (fun K hK => ?_)
       refine step_next rfl _ rfl ib s pos (by kernel_rfl) hit hlt ?_
       intro w1 hit' hO
       replace hv := hv.iter hit hO
       replace hst := hst.fresh hO hibz
       have hS1 : Below 0 wr w1 := hO.below (Nat.zero_le _)
       clear hit
       have hit : Itr w1 ib s (pos + dw s pos) := hit'
       clear hit' hO
       refine hK _ _ ?_
       clear hK K
       (try simp only [Act.put, zD, zE, zF])
       refine pQ [.bool true] ?_
       go_upto_region 3 with fail
       refine pS [.int .i64 (pos : Nat), .int .i32 (dr s pos : Nat), _, _] ?_
       go_upto_region 4 with fail
       refine pR [_] ?_
       refine ieF .i32 (dr s pos : Nat) 91 ?_
       refine wN ?_
       go_upto_region 6 with fail
       refine pR [_] ?_
       refine ieF .i32 (dr s pos : Nat) 58 ?_
       refine wN ?_
       go_upto_region 9 with fail
       refine pR [_] ?_
       refine ieF .i32 (dr s pos : Nat) 59 ?_
       refine wN ?_
       go_upto_region 12 with fail
       refine pR [_] ?_
       refine ieF .i32 (dr s pos : Nat) 63 ?_
       refine wN ?_
       go_wp2
       go_roundw
       case rel => exact ⟨pos + dw s pos, g1, hit, hv, hst, HG⟩
       case measure => rw [hit.pos]; omega
  ·have HR : Hid (stHost u s = ⟨7, eS, false, { u with host := s, star := decide (s = starS) }⟩) := by unfold Hid stHost; rw [HI.out, scanAt_end _ _ _ _ hlt]
   go_upto_region 2 with fail
   apply wR
   refine Wl.step (fun K hK => ?_)
   refine step_next_end rfl _ rfl ib s pos (by kernel_rfl) hit hlt ?_
   rintro _ rfl
   have hS1 := hs0
   refine hK _ _ ?_
   clear hK K
   (try simp only [Act.put, zD, zE, zF])
   refine pQ [.bool false] ?_
   go_upto_region 15 with fail
   refine pR [_, _, .pointer (some ⟨b, o, none⟩), .pointer (some ⟨b, o + 6, none⟩)] ?_
   refine Wl.step (fun K hK => ?_)
   refine sV b o 6 [.string s] hv ?_
   intro w2 hv' hO2
   replace hst := hst.sto hO2
   have hS2 := hS1.trans (hO2.below (by omega))
   have hz2 := hS2.size
   clear hv
   have hv := hv'
   clear hv'
   have hzz2 := hO2.size
   replace hO2 := Lib.hid hO2
   refine hK _ _ ?_
   clear hK K
   (try simp only [Act.put, zD, zE, zF])
   refine wN ?_
   go_upto_region 16 with fail
   refine pR [_, _] ?_
   refine yb (.bool (decide (s = starS))) hS2 (yf_seqD (by kernel_rfl) 9 9 _ _ rfl s starS (by kernel_rfl) (by kernel_rfl)) ?_
   refine pP [.pointer (some ⟨b, o, none⟩), .pointer (some ⟨b, o + 2, none⟩)] ?_
   refine Wl.step (fun K hK => ?_)
   refine sV b o 2 [.bool (decide (s = starS))] hv ?_
   intro w3 hv' hO3
   replace hst := hst.sto hO3
   have hS3 := hS2.trans (hO3.below (by omega))
   have hz3 := hS3.size
   clear hv
   have hv := hv'
   clear hv'
   have hzz3 := hO3.size
   replace hO3 := Lib.hid hO3
   refine hK _ _ ?_
   clear hK K
   (try simp only [Act.put, zD, zE, zF])
   refine wN ?_
   go_upto_region 17 with fail
   refine pS [.func (.func 104) #[] #[], _, _] ?_
   go_wp2
   go_ret3
   rw [HR.out]
   exact HU.out.out rfl rfl rfl HU.out.ok.lo HU.out.ok.hi hv hst
end Go.Proofs.YtfcllhdhfenmcaaGreatDoor
