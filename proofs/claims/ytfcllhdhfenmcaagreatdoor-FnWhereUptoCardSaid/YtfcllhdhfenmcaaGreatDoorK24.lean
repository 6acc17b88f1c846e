/- Part 24 of the proof: laws and walks (merged by a program). -/
import Derived.Test.YtfcllhdhfenmcaaGreatDoorK01
import Derived.Test.YtfcllhdhfenmcaaGreatDoorK23
set_option linter.all false
set_option maxHeartbeats 8000000
set_option maxRecDepth 100000
namespace Go.Proofs.YtfcllhdhfenmcaaGreatDoor
open Go.RowKit Go.Proofs.Tryz
def fU (t : ByteArray) (sp en : Nat) (i c : Nat) (st : PS) := pstep t sp en i c st
theorem unmarshal_c (w0 : World) (hE : Env w0) (base b q : Nat) (w : World) (v : Value) (L R : List Value) (T : TypeId) (s : ByteArray) (sp en : Nat) (l : List PV) (h : VB w b q [v] L R T) (hp : Pw base w v l) (hT : T ≠ 145)
 (hw : Below w0.heap.size w0 w) (hbase : base ≤ w.heap.size) (hsp : sp < 128) (hen : en < 128) (hs : s.size ≤ 100000000) (hl : l.length ≤ 1000) :
 Calls Tryz.prog 115 #[.string s, .int .i32 ((sp : Nat) : Int), .int .i32 ((en : Nat) : Int), .pointer (some ⟨b, q, none⟩)] w fun e w' =>
  ∃ v', e = .returned (.tuple #[.int .i64 (((unmarshal s sp en l).1 : Nat) : Int), .nilIface]) ∧ VB w' b q [v'] L R T ∧ Pw base w' v' (unmarshal s sp en l).2 ∧ Stp base b w w' := by
 have HTR := Lib.hid (hE.trim s w hw hs)
 have hts := trimL_size s
 obtain ⟨t, ht⟩ : ∃ t, t = trimL s := ⟨_, rfl⟩
 have hun : unmarshal s sp en l = pread t sp en l := by unfold unmarshal; rw [ht]
 rw [hun]
 rw [← ht] at HTR hts
 have htz : t.size ≤ 100000000 := by omega
 clear hun ht hE hw hts
 have hs0 := Below.refl 0 w
 go_enter func115, ntmps115
 go_upto_region 0 with fail
 refine pS [_, _] ?_
 go_upto_region 1 with fail
 refine pS [_, _, _] ?_
 go_upto_region 2 with fail
 refine pS [_] ?_
 go_upto_region 3 with fail
 refine pR [_] ?_
 refine cD func126 HTR.out ?_
 rintro e w1 ⟨rfl, hb1⟩
 refine cR ?_
 obtain ⟨hS1, hz1, hy1⟩ := zC hs0 hb1
 replace hp := hp.grow hb1
 replace h := h.grow hb1
 refine pQ [_] ?_
 go_upto_region 4 with fail
 refine pR [_] ?_
 refine iL t underlying9 ?_
 refine pQ [_] ?_
 have hst1 := Stp.of (base := base) (b := b) hb1
 have hz1 := hb1.size
 clear hs0 hS1 hb1 HTR
 go_wp2
 have hit0 : (w1.iter t 0).heap[w1.heap.size]? = some (.stringIter t 0) := World.iter_heap w1 t 0
 have hW2 : Below w1.heap.size w1 (w1.iter t 0) := (Below.refl w1.heap.size w1).alloc (Nat.le_refl _) _
 obtain ⟨ib, hib⟩ : ∃ ib, ib = w1.heap.size := ⟨_, rfl⟩
 rw [← hib] at hit0 ⊢
 obtain ⟨wi, hwi⟩ : ∃ wi, wi = w1.iter t 0 := ⟨_, rfl⟩
 rw [← hwi] at hit0 hW2 ⊢
 have hst2 := hst1.trans (Stp.of (base := base) (b := b) hW2)
 have hp2 := hp.grow hW2
 have hv2 := h.grow hW2
 have hibz : w.heap.size ≤ ib := by omega
 clear hwi hib hW2 hst1 hp h
 go_loopw [8, 10, 11, 12, 13] (fun v8 v10 v11 v12 v13 wr => ∃ (pos : Nat) (ps : PS) (v' : Value), pos ≤ t.size ∧ v8 = .int .i64 ((t.size : Nat) : Int) ∧ v10 = .int .i64 ((ps.start : Nat) : Int) ∧ v11 = .int .i64 ((ps.sep : Nat) : Int) ∧ v12 = .int .i64 ps.quote ∧ v13 = .int .i64 ((ps.state : Nat) : Int) ∧
  Itr wr ib t pos ∧ VB wr b q [v'] L R T ∧ Pw base wr v' ps.ps ∧ Stp base b w wr ∧ Hid (PInv pos ps l.length ∧ pread t sp en l = (match scanAt (pstep t sp en) t pos ps with | .inl (i, st) => pfin t i st | .inr st => pfin t t.size st))) (fun _ _ _ _ _ wr => t.size - wr.iterPos ib)
 case atStart => exact ⟨0, ⟨0, 0, -1, 1, l⟩, v, Nat.zero_le _, rfl, rfl, rfl, rfl, rfl, hit0, hv2, hp2, hst2, ⟨⟨by simp, .inl rfl, .inl rfl, by simp, by simp, by simp⟩, rfl⟩⟩
 case round =>
  clear hit0 hv2 hp2 hst2
  obtain ⟨pos, ⟨start, sep, quote, state, ps⟩, v', hpt, rfl, rfl, rfl, rfl, rfl, hit, hv, hp, hst, HI⟩ := hrel
  simp only [] at hp
  have hmz : wr.iterPos ib = pos := hit.pos
  rw [hmz]
  clear hmz
  have hbz : base ≤ wr.heap.size := by have := hst.size; omega
  have hs0 := Below.refl 0 wr
  by_cases hlt : pos < t.size
  ·have hN := dr_le t pos
   have hpl := HI.out.1.len
   simp only [] at hpl
   have HPL : Hid (ps.length + 2 ≤ 4000000000000) := by unfold Hid; omega
   clear hpl
   by_cases hc : dr t pos = en
   ·have HF : Hid (pread t sp en l = pfin t pos ⟨start, sep, quote, state, ps⟩) := by have := HI.out.2; rw [pscan_stop hsp hen hlt hc] at this; exact this
    have i1 := HI.out.1.start
    have i2 := HI.out.1.sep
    simp only [] at i1 i2
    clear HI
    go_upto_region 6 with fail
    apply wR
    refine Wl.step (fun K hK => ?_)
    refine step_next rfl _ rfl ib t pos (by kernel_rfl) hit hlt ?_
    intro w1 hit' hO
    replace hv := hv.iter hit hO
    replace hp := hp.iter hit hO
    replace hst := hst.fresh hO hibz
    have hS1 : Below 0 wr w1 := hO.below (Nat.zero_le _)
    have hbz := Nat.le_trans hbz (Nat.le_of_eq hO.size.symm)
    clear hit
    have hit : Itr w1 ib t (pos + dw t pos) := hit'
    clear hit' hO
    refine hK _ _ ?_
    clear hK K
    (try simp only [Act.put, zD, zE, zF])
    refine pQ [.bool true] ?_
    go_upto_region 7 with fail
    refine pS [.int .i64 (pos : Nat), .int .i32 (dr t pos : Nat), _, _] ?_
    go_upto_region 8 with fail
    refine pR [_, _] ?_
    refine ieT .i32 (dr t pos : Nat) (en : Nat) ?_
    refine wN ?_
    go_upto_region 9 with fail
    refine pS [_, _] ?_
    by_cases h1 : 0 < sep ∧ start < sep
    ·obtain ⟨h1a, h1b⟩ := h1
     have HPF : Hid (pread t sp en l = (pos, addPV ps (t.extract start sep) (t.extract (sep + 1) pos))) := HF.out.trans (pfinA h1a h1b)
     clear HF
     go_upto_region 35 with fail
     refine pR [_] ?_
     refine igT .i64 (sep : Nat) 0 ?_
     refine pP [_, _] ?_
     refine ihT .i64 (pos : Nat) 0 ?_
     refine pP [.bool true, _, _, _] ?_
     refine ilT .i64 (start : Nat) (sep : Nat) ?_
     refine pQ [.bool true] ?_
     go_upto_region 36 with fail
     refine wp_region_noPanic ?_
     have hSd36 := hS1.drew
     have hzd36 := hSd36.size
     have hze36 : (w1).drew.heap.size = (w1).heap.size := rfl
     refine wp_region_held_drew (S := fun w' => Below (0) wr w') (by kernel_rfl) hSd36 (fun _ => ?_)
     replace hv := hv.grow (below_drew1 _)
     replace hp := hp.grow (below_drew1 _)
     replace hst := hst.grow (below_drew1 _)
     replace hit := hit.grow (below_drew1 _)
     refine tk 0 (.pointer (some ⟨b, q, none⟩)) rfl yR hSd36 ?_
     refine tk 1 (.string t) rfl yR hSd36 ?_
     refine tk 2 (.int .i64 (start : Nat)) rfl yR hSd36 ?_
     refine tk 3 (.int .i64 (sep : Nat)) rfl yR hSd36 ?_
     refine tk 4 (.string (t.extract ((start)) ((sep)))) rfl (yf_cut_lh (by kernel_rfl) 9 underlying9 _ _ _ rfl t (by kernel_rfl) (start) (sep) (by kernel_rfl) (by kernel_rfl) (by omega) (by omega)) hSd36 ?_
     refine tk 5 (.string t) rfl yR hSd36 ?_
     refine tk 6 (.int .i64 (sep : Nat)) rfl yR hSd36 ?_
     refine tk 7 (.int .i64 ((sep) + 1 : Nat)) rfl (yf_addN (by kernel_rfl) 3 3 _ _ rfl (sep) 1 (by kernel_rfl) (by kernel_rfl) (by omega)) hSd36 ?_
     refine tk 8 (.int .i64 (pos : Nat)) rfl yR hSd36 ?_
     refine tk 9 (.string (t.extract (((sep) + 1)) ((pos)))) rfl (yf_cut_lh (by kernel_rfl) 9 underlying9 _ _ _ rfl t (by kernel_rfl) ((sep) + 1) (pos) (by kernel_rfl) (by kernel_rfl) (by omega) (by omega)) hSd36 ?_
     refine rd 10 rfl (fun K hK => ?_)
     refine sC func128 #[.pointer (some ⟨b, q, none⟩), .string (t.extract start sep), .string (t.extract (sep + 1) pos)] (add_c base b q _ v' L R T ps (t.extract start sep) (t.extract (sep + 1) pos) hv hp hT (by have := hst.size; omega) (by have := HPL.out; omega)) ?_
     rintro e w2 ⟨v2, rfl, hv2, hp2, hst2⟩
     refine ⟨_, rfl, ?_⟩
     have hS2 : Below 0 wr w2 := hSd36.trans (hst2.low (Nat.zero_le _) (Nat.zero_le _) (Nat.zero_le _))
     replace hst := hst.trans hst2
     replace hit := hit.stp hst2 hv
     clear hv hp hst2
     have hv := hv2
     have hp := hp2
     clear hv2 hp2
     refine sh hK hS2 ?_
     clear hK K
     refine wpAnyH_done (by kernel_rfl) ?_ _
     refine NoPanic.normal ?_
     go_upto_region 37 with fail
     refine pR [_] ?_
     refine ieF .i64 (sep : Nat) 0 ?_
     refine pP [_] ?_
     refine Wl.u ?_
     refine Wl.u ?_
     refine Wl.u ?_
     refine pP [.bool false, _] ?_
     refine Wl.u ?_
     refine Wl.u ?_
     refine pQ [.bool false] ?_
     go_upto_region 39 with fail
     refine pS [_, _, _] ?_
     go_wp2
     go_ret2
     first | exact ⟨by rw [HPF.out]; rfl, v2, hv, by rw [HPF.out]; exact hp, hst⟩ | exact ⟨v2, by rw [HPF.out]; rfl, hv, by rw [HPF.out]; exact hp, hst⟩
    ·by_cases h2 : sep = 0
     ·subst h2
      by_cases h3 : start < pos
      ·have HPF : Hid (pread t sp en l = (pos, addPV ps (t.extract start t.size) ⟨#[]⟩)) := HF.out.trans (pfinB h3)
       clear HF
       go_upto_region 35 with fail
       refine pR [_] ?_
       refine igF .i64 (0 : Nat) 0 ?_
       refine pP [_] ?_
       refine Wl.u ?_
       refine Wl.u ?_
       refine pP [.bool false, _] ?_
       refine Wl.u ?_
       refine Wl.u ?_
       refine Wl.u ?_
       refine pQ [.bool false] ?_
       go_upto_region 37 with fail
       refine pR [_] ?_
       refine ieT .i64 (0 : Nat) 0 ?_
       refine pP [_, _, _] ?_
       refine ilT .i64 (start : Nat) (pos : Nat) ?_
       refine pP [.bool true, _, _] ?_
       refine ihT .i64 (pos : Nat) 0 ?_
       refine pQ [.bool true] ?_
       go_upto_region 38 with fail
       refine pR [_, _, _] ?_
       refine cuL t start underlying9 ?_
       refine cC func128 #[.pointer (some ⟨b, q, none⟩), .string (t.extract start t.size), .string (⟨#[]⟩)] (add_c base b q _ v' L R T ps (t.extract start t.size) (⟨#[]⟩) hv hp hT (by have := hst.size; omega) (by have := HPL.out; omega)) ?_
       rintro e w2 ⟨v2, rfl, hv2, hp2, hst2⟩
       refine cR ?_
       have hS2 : Below 0 wr w2 := hS1.trans (hst2.low (Nat.zero_le _) (Nat.zero_le _) (Nat.zero_le _))
       replace hst := hst.trans hst2
       replace hit := hit.stp hst2 hv
       clear hv hp hst2
       have hv := hv2
       have hp := hp2
       clear hv2 hp2
       refine wN ?_
       go_upto_region 39 with fail
       refine pS [_, _, _] ?_
       go_wp2
       go_ret2
       first | exact ⟨by rw [HPF.out]; rfl, v2, hv, by rw [HPF.out]; exact hp, hst⟩ | exact ⟨v2, by rw [HPF.out]; rfl, hv, by rw [HPF.out]; exact hp, hst⟩
      ·have HPF : Hid (pread t sp en l = (pos, ps)) := HF.out.trans (pfinC h3)
       clear HF
       go_upto_region 35 with fail
       refine pR [_] ?_
       refine igF .i64 (0 : Nat) 0 ?_
       refine pP [_] ?_
       refine Wl.u ?_
       refine Wl.u ?_
       refine pP [.bool false, _] ?_
       refine Wl.u ?_
       refine Wl.u ?_
       refine Wl.u ?_
       refine pQ [.bool false] ?_
       go_upto_region 37 with fail
       refine pR [_] ?_
       refine ieT .i64 (0 : Nat) 0 ?_
       refine pP [_, _, _] ?_
       refine ilF .i64 (start : Nat) (pos : Nat) ?_
       refine pP [.bool false, _] ?_
       refine Wl.u ?_
       refine Wl.u ?_
       refine pQ [.bool false] ?_
       go_upto_region 39 with fail
       refine pS [_, _, _] ?_
       go_wp2
       go_ret2
       first | exact ⟨by rw [HPF.out]; rfl, v', hv, by rw [HPF.out]; exact hp, hst⟩ | exact ⟨v', by rw [HPF.out]; rfl, hv, by rw [HPF.out]; exact hp, hst⟩
     ·have HPF : Hid (pread t sp en l = (pos, ps)) := HF.out.trans (pfinD h2 h1)
      clear HF
      have h1a : 0 < sep := by omega
      have h1b : ¬ start < sep := fun h => h1 ⟨h1a, h⟩
      go_upto_region 35 with fail
      refine pR [_] ?_
      refine igT .i64 (sep : Nat) 0 ?_
      refine pP [_, _] ?_
      refine ihT .i64 (pos : Nat) 0 ?_
      refine pP [.bool true, _, _, _] ?_
      refine ilF .i64 (start : Nat) (sep : Nat) ?_
      refine pQ [.bool false] ?_
      go_upto_region 37 with fail
      refine pR [_] ?_
      refine ieF .i64 (sep : Nat) 0 ?_
      refine pP [_] ?_
      refine Wl.u ?_
      refine Wl.u ?_
      refine Wl.u ?_
      refine pP [.bool false, _] ?_
      refine Wl.u ?_
      refine Wl.u ?_
      refine pQ [.bool false] ?_
      go_upto_region 39 with fail
      refine pS [_, _, _] ?_
      go_wp2
      go_ret2
      first | exact ⟨by rw [HPF.out]; rfl, v', hv, by rw [HPF.out]; exact hp, hst⟩ | exact ⟨v', by rw [HPF.out]; rfl, hv, by rw [HPF.out]; exact hp, hst⟩
   ·have h123 := HI.out.1.state
    simp only [] at h123
    have hnc : (((dr t pos : Nat) : Int)) ≠ ((en : Nat) : Int) := by omega
    rcases h123 with rfl | rfl | rfl | rfl
    ·obtain ⟨g1, g2, g3, g4⟩ := pscan_go hsp hen hlt HI.out.1 (st' := (⟨pos, 0, quote, 2, ps⟩ : PS)) (by exact pstep1 hc)
     have HG : Hid (PInv (pos + dw t pos) (⟨pos, 0, quote, 2, ps⟩ : PS) l.length ∧ pread t sp en l = (match scanAt (pstep t sp en) t (pos + dw t pos) (⟨pos, 0, quote, 2, ps⟩ : PS) with | .inl (i, st) => pfin t i st | .inr st => pfin t t.size st)) := ⟨g3, by rw [← g4]; exact HI.out.2⟩
     clear g3 g4 HI
     go_upto_region 6 with fail
     apply wR
     refine Wl.step (fun K hK => ?_)
     refine step_next rfl _ rfl ib t pos (by kernel_rfl) hit hlt ?_
     intro w1 hit' hO
     replace hv := hv.iter hit hO
     replace hp := hp.iter hit hO
     replace hst := hst.fresh hO hibz
     have hS1 : Below 0 wr w1 := hO.below (Nat.zero_le _)
     have hbz := Nat.le_trans hbz (Nat.le_of_eq hO.size.symm)
     clear hit
     have hit : Itr w1 ib t (pos + dw t pos) := hit'
     clear hit' hO
     refine hK _ _ ?_
     clear hK K
     (try simp only [Act.put, zD, zE, zF])
     refine pQ [.bool true] ?_
     go_upto_region 7 with fail
     refine pS [.int .i64 (pos : Nat), .int .i32 (dr t pos : Nat), _, _] ?_
     go_upto_region 8 with fail
     refine pR [_, _] ?_
     refine ieF .i32 (dr t pos : Nat) (en : Nat) ?_
     refine wN ?_
     go_upto_region 10 with fail
     refine pS [_] ?_
     go_upto_region 11 with fail
     refine pS [.bool true, _] ?_
     go_upto_region 12 with fail
     refine pS [_] ?_
     go_upto_region 13 with fail
     refine pS [_, _] ?_
     go_upto_region 14 with fail
     refine pS [_] ?_
     go_wp2
     go_roundw
     case rel => exact ⟨pos + dw t pos, (⟨pos, 0, quote, 2, ps⟩ : PS), v', g1, rfl, rfl, rfl, rfl, rfl, hit, hv, hp, hst, HG⟩
     case measure => rw [hit.pos]; omega
    ·have i1 := HI.out.1.start
     simp only [] at i1
     by_cases h2 : dr t pos = sp
     ·obtain ⟨g1, g2, g3, g4⟩ := pscan_go hsp hen hlt HI.out.1 (st' := (⟨start, sep, quote, 1, addPV ps (t.extract start pos) ⟨#[]⟩⟩ : PS)) (by exact pstep2s hc h2)
      have HG : Hid (PInv (pos + dw t pos) (⟨start, sep, quote, 1, addPV ps (t.extract start pos) ⟨#[]⟩⟩ : PS) l.length ∧ pread t sp en l = (match scanAt (pstep t sp en) t (pos + dw t pos) (⟨start, sep, quote, 1, addPV ps (t.extract start pos) ⟨#[]⟩⟩ : PS) with | .inl (i, st) => pfin t i st | .inr st => pfin t t.size st)) := ⟨g3, by rw [← g4]; exact HI.out.2⟩
      clear g3 g4 HI
      go_upto_region 6 with fail
      apply wR
      refine Wl.step (fun K hK => ?_)
      refine step_next rfl _ rfl ib t pos (by kernel_rfl) hit hlt ?_
      intro w1 hit' hO
      replace hv := hv.iter hit hO
      replace hp := hp.iter hit hO
      replace hst := hst.fresh hO hibz
      have hS1 : Below 0 wr w1 := hO.below (Nat.zero_le _)
      have hbz := Nat.le_trans hbz (Nat.le_of_eq hO.size.symm)
      clear hit
      have hit : Itr w1 ib t (pos + dw t pos) := hit'
      clear hit' hO
      refine hK _ _ ?_
      clear hK K
      (try simp only [Act.put, zD, zE, zF])
      refine pQ [.bool true] ?_
      go_upto_region 7 with fail
      refine pS [.int .i64 (pos : Nat), .int .i32 (dr t pos : Nat), _, _] ?_
      go_upto_region 8 with fail
      refine pR [_, _] ?_
      refine ieF .i32 (dr t pos : Nat) (en : Nat) ?_
      refine wN ?_
      go_upto_region 10 with fail
      refine pS [_] ?_
      go_upto_region 11 with fail
      refine pS [.bool false, _] ?_
      go_upto_region 15 with fail
      refine pS [.bool true, _] ?_
      go_upto_region 16 with fail
      refine pR [_, _] ?_
      refine ieT .i32 (dr t pos : Nat) (sp : Nat) ?_
      refine wN ?_
      go_upto_region 17 with fail
      refine pR [_, _, _, _] ?_
      refine yb (.string (t.extract ((start)) ((pos)))) hS1 (yf_cut_lh (by kernel_rfl) 9 underlying9 _ _ _ rfl t (by kernel_rfl) (start) (pos) (by kernel_rfl) (by kernel_rfl) (by omega) (by omega)) ?_
      refine cC func128 #[.pointer (some ⟨b, q, none⟩), .string (t.extract start pos), .string (⟨#[]⟩)] (add_c base b q _ v' L R T ps (t.extract start pos) (⟨#[]⟩) hv hp hT (by have := hst.size; omega) (by have := HPL.out; omega)) ?_
      rintro e w2 ⟨v2, rfl, hv2, hp2, hst2⟩
      refine cR ?_
      have hS2 : Below 0 wr w2 := hS1.trans (hst2.low (Nat.zero_le _) (Nat.zero_le _) (Nat.zero_le _))
      replace hst := hst.trans hst2
      replace hit := hit.stp hst2 hv
      clear hv hp hst2
      have hv := hv2
      have hp := hp2
      clear hv2 hp2
      refine wN ?_
      go_upto_region 18 with fail
      refine pS [_] ?_
      go_wp2
      go_roundw
      case rel => exact ⟨pos + dw t pos, (⟨start, sep, quote, 1, addPV ps (t.extract start pos) ⟨#[]⟩⟩ : PS), v2, g1, rfl, rfl, rfl, rfl, rfl, hit, hv, hp, hst, HG⟩
      case measure => rw [hit.pos]; omega
     ·by_cases h3 : dr t pos = 61
      ·obtain ⟨g1, g2, g3, g4⟩ := pscan_go hsp hen hlt HI.out.1 (st' := (⟨start, pos, quote, 3, ps⟩ : PS)) (by exact pstep2e hc h2 h3)
       have HG : Hid (PInv (pos + dw t pos) (⟨start, pos, quote, 3, ps⟩ : PS) l.length ∧ pread t sp en l = (match scanAt (pstep t sp en) t (pos + dw t pos) (⟨start, pos, quote, 3, ps⟩ : PS) with | .inl (i, st) => pfin t i st | .inr st => pfin t t.size st)) := ⟨g3, by rw [← g4]; exact HI.out.2⟩
       clear g3 g4 HI
       go_upto_region 6 with fail
       apply wR
       refine Wl.step (fun K hK => ?_)
       refine step_next rfl _ rfl ib t pos (by kernel_rfl) hit hlt ?_
       intro w1 hit' hO
       replace hv := hv.iter hit hO
       replace hp := hp.iter hit hO
       replace hst := hst.fresh hO hibz
       have hS1 : Below 0 wr w1 := hO.below (Nat.zero_le _)
       have hbz := Nat.le_trans hbz (Nat.le_of_eq hO.size.symm)
       clear hit
       have hit : Itr w1 ib t (pos + dw t pos) := hit'
       clear hit' hO
       refine hK _ _ ?_
       clear hK K
       (try simp only [Act.put, zD, zE, zF])
       refine pQ [.bool true] ?_
       go_upto_region 7 with fail
       refine pS [.int .i64 (pos : Nat), .int .i32 (dr t pos : Nat), _, _] ?_
       go_upto_region 8 with fail
       refine pR [_, _] ?_
       refine ieF .i32 (dr t pos : Nat) (en : Nat) ?_
       refine wN ?_
       go_upto_region 10 with fail
       refine pS [_] ?_
       go_upto_region 11 with fail
       refine pS [.bool false, _] ?_
       go_upto_region 15 with fail
       refine pS [.bool true, _] ?_
       go_upto_region 16 with fail
       refine pR [_, _] ?_
       refine ieF .i32 (dr t pos : Nat) (sp : Nat) ?_
       refine wN ?_
       go_upto_region 19 with fail
       refine pR [_] ?_
       refine inF .i32 (dr t pos : Nat) 61 ?_
       refine wN ?_
       go_upto_region 20 with fail
       refine pS [_, _] ?_
       go_upto_region 21 with fail
       refine pS [_] ?_
       go_wp2
       go_roundw
       case rel => exact ⟨pos + dw t pos, (⟨start, pos, quote, 3, ps⟩ : PS), v', g1, rfl, rfl, rfl, rfl, rfl, hit, hv, hp, hst, HG⟩
       case measure => rw [hit.pos]; omega
      ·obtain ⟨g1, g2, g3, g4⟩ := pscan_go hsp hen hlt HI.out.1 (st' := (⟨start, sep, quote, 2, ps⟩ : PS)) (by exact pstep2n hc h2 h3)
       have HG : Hid (PInv (pos + dw t pos) (⟨start, sep, quote, 2, ps⟩ : PS) l.length ∧ pread t sp en l = (match scanAt (pstep t sp en) t (pos + dw t pos) (⟨start, sep, quote, 2, ps⟩ : PS) with | .inl (i, st) => pfin t i st | .inr st => pfin t t.size st)) := ⟨g3, by rw [← g4]; exact HI.out.2⟩
       clear g3 g4 HI
       go_upto_region 6 with fail
       apply wR
       refine Wl.step (fun K hK => ?_)
       refine step_next rfl _ rfl ib t pos (by kernel_rfl) hit hlt ?_
       intro w1 hit' hO
       replace hv := hv.iter hit hO
       replace hp := hp.iter hit hO
       replace hst := hst.fresh hO hibz
       have hS1 : Below 0 wr w1 := hO.below (Nat.zero_le _)
       have hbz := Nat.le_trans hbz (Nat.le_of_eq hO.size.symm)
       clear hit
       have hit : Itr w1 ib t (pos + dw t pos) := hit'
       clear hit' hO
       refine hK _ _ ?_
       clear hK K
       (try simp only [Act.put, zD, zE, zF])
       refine pQ [.bool true] ?_
       go_upto_region 7 with fail
       refine pS [.int .i64 (pos : Nat), .int .i32 (dr t pos : Nat), _, _] ?_
       go_upto_region 8 with fail
       refine pR [_, _] ?_
       refine ieF .i32 (dr t pos : Nat) (en : Nat) ?_
       refine wN ?_
       go_upto_region 10 with fail
       refine pS [_] ?_
       go_upto_region 11 with fail
       refine pS [.bool false, _] ?_
       go_upto_region 15 with fail
       refine pS [.bool true, _] ?_
       go_upto_region 16 with fail
       refine pR [_, _] ?_
       refine ieF .i32 (dr t pos : Nat) (sp : Nat) ?_
       refine wN ?_
       go_upto_region 19 with fail
       refine pR [_] ?_
       refine inT .i32 (dr t pos : Nat) 61 ?_
       refine wN ?_
       go_wp2
       go_roundw
       case rel => exact ⟨pos + dw t pos, (⟨start, sep, quote, 2, ps⟩ : PS), v', g1, rfl, rfl, rfl, rfl, rfl, hit, hv, hp, hst, HG⟩
       case measure => rw [hit.pos]; omega
    ·have i3 := HI.out.1.val (.inl rfl)
     simp only [] at i3
     obtain ⟨i3, i4⟩ := i3
     by_cases h2 : dr t pos = 34
     ·obtain ⟨g1, g2, g3, g4⟩ := pscan_go hsp hen hlt HI.out.1 (st' := (⟨start, sep, ((pos : Nat) : Int), 4, ps⟩ : PS)) (by exact pstep3q hc h2)
      have HG : Hid (PInv (pos + dw t pos) (⟨start, sep, ((pos : Nat) : Int), 4, ps⟩ : PS) l.length ∧ pread t sp en l = (match scanAt (pstep t sp en) t (pos + dw t pos) (⟨start, sep, ((pos : Nat) : Int), 4, ps⟩ : PS) with | .inl (i, st) => pfin t i st | .inr st => pfin t t.size st)) := ⟨g3, by rw [← g4]; exact HI.out.2⟩
      clear g3 g4 HI
      go_upto_region 6 with fail
      apply wR
      refine Wl.step (fun K hK => ?_)
      refine step_next rfl _ rfl ib t pos (by kernel_rfl) hit hlt ?_
      intro w1 hit' hO
      replace hv := hv.iter hit hO
      replace hp := hp.iter hit hO
      replace hst := hst.fresh hO hibz
      have hS1 : Below 0 wr w1 := hO.below (Nat.zero_le _)
      have hbz := Nat.le_trans hbz (Nat.le_of_eq hO.size.symm)
      clear hit
      have hit : Itr w1 ib t (pos + dw t pos) := hit'
      clear hit' hO
      refine hK _ _ ?_
      clear hK K
      (try simp only [Act.put, zD, zE, zF])
      refine pQ [.bool true] ?_
      go_upto_region 7 with fail
      refine pS [.int .i64 (pos : Nat), .int .i32 (dr t pos : Nat), _, _] ?_
      go_upto_region 8 with fail
      refine pR [_, _] ?_
      refine ieF .i32 (dr t pos : Nat) (en : Nat) ?_
      refine wN ?_
      go_upto_region 10 with fail
      refine pS [_] ?_
      go_upto_region 11 with fail
      refine pS [.bool false, _] ?_
      go_upto_region 15 with fail
      refine pS [.bool false, _] ?_
      go_upto_region 22 with fail
      refine pS [.bool true, _] ?_
      go_upto_region 23 with fail
      refine pS [_] ?_
      go_upto_region 24 with fail
      apply wR
      refine ieT .i32 (dr t pos : Nat) 34 ?_
      refine pQ [_] ?_
      go_upto_region 25 with fail
      refine pS [_] ?_
      go_upto_region 26 with fail
      refine pS [_, _] ?_
      go_wp2
      go_roundw
      case rel => exact ⟨pos + dw t pos, (⟨start, sep, ((pos : Nat) : Int), 4, ps⟩ : PS), v', g1, rfl, rfl, rfl, rfl, rfl, hit, hv, hp, hst, HG⟩
      case measure => rw [hit.pos]; omega
     ·by_cases h3 : dr t pos = sp
      ·obtain ⟨g1, g2, g3, g4⟩ := pscan_go hsp hen hlt HI.out.1 (st' := (⟨sep + 1, sep, quote, 1, addPV ps (t.extract start sep) (t.extract (sep + 1) pos)⟩ : PS)) (by exact pstep3s hc h2 h3)
       have HG : Hid (PInv (pos + dw t pos) (⟨sep + 1, sep, quote, 1, addPV ps (t.extract start sep) (t.extract (sep + 1) pos)⟩ : PS) l.length ∧ pread t sp en l = (match scanAt (pstep t sp en) t (pos + dw t pos) (⟨sep + 1, sep, quote, 1, addPV ps (t.extract start sep) (t.extract (sep + 1) pos)⟩ : PS) with | .inl (i, st) => pfin t i st | .inr st => pfin t t.size st)) := ⟨g3, by rw [← g4]; exact HI.out.2⟩
       clear g3 g4 HI
       go_upto_region 6 with fail
       apply wR
       refine Wl.step (fun K hK => ?_)
       refine step_next rfl _ rfl ib t pos (by kernel_rfl) hit hlt ?_
       intro w1 hit' hO
       replace hv := hv.iter hit hO
       replace hp := hp.iter hit hO
       replace hst := hst.fresh hO hibz
       have hS1 : Below 0 wr w1 := hO.below (Nat.zero_le _)
       have hbz := Nat.le_trans hbz (Nat.le_of_eq hO.size.symm)
       clear hit
       have hit : Itr w1 ib t (pos + dw t pos) := hit'
       clear hit' hO
       refine hK _ _ ?_
       clear hK K
       (try simp only [Act.put, zD, zE, zF])
       refine pQ [.bool true] ?_
       go_upto_region 7 with fail
       refine pS [.int .i64 (pos : Nat), .int .i32 (dr t pos : Nat), _, _] ?_
       go_upto_region 8 with fail
       refine pR [_, _] ?_
       refine ieF .i32 (dr t pos : Nat) (en : Nat) ?_
       refine wN ?_
       go_upto_region 10 with fail
       refine pS [_] ?_
       go_upto_region 11 with fail
       refine pS [.bool false, _] ?_
       go_upto_region 15 with fail
       refine pS [.bool false, _] ?_
       go_upto_region 22 with fail
       refine pS [.bool true, _] ?_
       go_upto_region 23 with fail
       refine pS [_] ?_
       go_upto_region 24 with fail
       apply wR
       refine ieF .i32 (dr t pos : Nat) 34 ?_
       refine pQ [_] ?_
       go_upto_region 27 with fail
       refine pR [_] ?_
       refine ieT .i32 (dr t pos : Nat) (sp : Nat) ?_
       refine pQ [_] ?_
       go_upto_region 28 with fail
       refine wp_region_noPanic ?_
       have hSd28 := hS1.drew
       have hzd28 := hSd28.size
       have hze28 : (w1).drew.heap.size = (w1).heap.size := rfl
       refine wp_region_held_drew (S := fun w' => Below (0) wr w') (by kernel_rfl) hSd28 (fun _ => ?_)
       replace hv := hv.grow (below_drew1 _)
       replace hp := hp.grow (below_drew1 _)
       replace hst := hst.grow (below_drew1 _)
       replace hit := hit.grow (below_drew1 _)
       refine tk 0 (.pointer (some ⟨b, q, none⟩)) rfl yR hSd28 ?_
       refine tk 1 (.string t) rfl yR hSd28 ?_
       refine tk 2 (.int .i64 (start : Nat)) rfl yR hSd28 ?_
       refine tk 3 (.int .i64 (sep : Nat)) rfl yR hSd28 ?_
       refine tk 4 (.string (t.extract ((start)) ((sep)))) rfl (yf_cut_lh (by kernel_rfl) 9 underlying9 _ _ _ rfl t (by kernel_rfl) (start) (sep) (by kernel_rfl) (by kernel_rfl) (by omega) (by omega)) hSd28 ?_
       refine tk 5 (.string t) rfl yR hSd28 ?_
       refine tk 6 (.int .i64 (sep : Nat)) rfl yR hSd28 ?_
       refine tk 7 (.int .i64 ((sep) + 1 : Nat)) rfl (yf_addN (by kernel_rfl) 3 3 _ _ rfl (sep) 1 (by kernel_rfl) (by kernel_rfl) (by omega)) hSd28 ?_
       refine tk 8 (.int .i64 (pos : Nat)) rfl yR hSd28 ?_
       refine tk 9 (.string (t.extract (((sep) + 1)) ((pos)))) rfl (yf_cut_lh (by kernel_rfl) 9 underlying9 _ _ _ rfl t (by kernel_rfl) ((sep) + 1) (pos) (by kernel_rfl) (by kernel_rfl) (by omega) (by omega)) hSd28 ?_
       refine rd 10 rfl (fun K hK => ?_)
       refine sC func128 #[.pointer (some ⟨b, q, none⟩), .string (t.extract start sep), .string (t.extract (sep + 1) pos)] (add_c base b q _ v' L R T ps (t.extract start sep) (t.extract (sep + 1) pos) hv hp hT (by have := hst.size; omega) (by have := HPL.out; omega)) ?_
       rintro e w2 ⟨v2, rfl, hv2, hp2, hst2⟩
       refine ⟨_, rfl, ?_⟩
       have hS2 : Below 0 wr w2 := hSd28.trans (hst2.low (Nat.zero_le _) (Nat.zero_le _) (Nat.zero_le _))
       replace hst := hst.trans hst2
       replace hit := hit.stp hst2 hv
       clear hv hp hst2
       have hv := hv2
       have hp := hp2
       clear hv2 hp2
       refine sh hK hS2 ?_
       clear hK K
       refine wpAnyH_done (by kernel_rfl) ?_ _
       refine NoPanic.normal ?_
       go_upto_region 29 with fail
       refine pR [_] ?_
       refine iA sep 1 ?_
       refine pQ [_] ?_
       go_upto_region 30 with fail
       refine pS [_] ?_
       go_wp2
       go_roundw
       case rel => exact ⟨pos + dw t pos, (⟨sep + 1, sep, quote, 1, addPV ps (t.extract start sep) (t.extract (sep + 1) pos)⟩ : PS), v2, g1, rfl, rfl, rfl, rfl, rfl, hit, hv, hp, hst, HG⟩
       case measure => rw [hit.pos]; omega
      ·obtain ⟨g1, g2, g3, g4⟩ := pscan_go hsp hen hlt HI.out.1 (st' := (⟨start, sep, quote, 3, ps⟩ : PS)) (by exact pstep3n hc h2 h3)
       have HG : Hid (PInv (pos + dw t pos) (⟨start, sep, quote, 3, ps⟩ : PS) l.length ∧ pread t sp en l = (match scanAt (pstep t sp en) t (pos + dw t pos) (⟨start, sep, quote, 3, ps⟩ : PS) with | .inl (i, st) => pfin t i st | .inr st => pfin t t.size st)) := ⟨g3, by rw [← g4]; exact HI.out.2⟩
       clear g3 g4 HI
       go_upto_region 6 with fail
       apply wR
       refine Wl.step (fun K hK => ?_)
       refine step_next rfl _ rfl ib t pos (by kernel_rfl) hit hlt ?_
       intro w1 hit' hO
       replace hv := hv.iter hit hO
       replace hp := hp.iter hit hO
       replace hst := hst.fresh hO hibz
       have hS1 : Below 0 wr w1 := hO.below (Nat.zero_le _)
       have hbz := Nat.le_trans hbz (Nat.le_of_eq hO.size.symm)
       clear hit
       have hit : Itr w1 ib t (pos + dw t pos) := hit'
       clear hit' hO
       refine hK _ _ ?_
       clear hK K
       (try simp only [Act.put, zD, zE, zF])
       refine pQ [.bool true] ?_
       go_upto_region 7 with fail
       refine pS [.int .i64 (pos : Nat), .int .i32 (dr t pos : Nat), _, _] ?_
       go_upto_region 8 with fail
       refine pR [_, _] ?_
       refine ieF .i32 (dr t pos : Nat) (en : Nat) ?_
       refine wN ?_
       go_upto_region 10 with fail
       refine pS [_] ?_
       go_upto_region 11 with fail
       refine pS [.bool false, _] ?_
       go_upto_region 15 with fail
       refine pS [.bool false, _] ?_
       go_upto_region 22 with fail
       refine pS [.bool true, _] ?_
       go_upto_region 23 with fail
       refine pS [_] ?_
       go_upto_region 24 with fail
       apply wR
       refine ieF .i32 (dr t pos : Nat) 34 ?_
       refine pQ [_] ?_
       go_upto_region 27 with fail
       refine pR [_] ?_
       refine ieF .i32 (dr t pos : Nat) (sp : Nat) ?_
       refine pQ [_] ?_
       go_wp2
       go_roundw
       case rel => exact ⟨pos + dw t pos, (⟨start, sep, quote, 3, ps⟩ : PS), v', g1, rfl, rfl, rfl, rfl, rfl, hit, hv, hp, hst, HG⟩
       case measure => rw [hit.pos]; omega
    ·have i1 := HI.out.1.start
     have i3 := HI.out.1.quo rfl
     simp only [] at i1 i3
     obtain ⟨qn, rfl⟩ : ∃ qn : Nat, quote = qn := ⟨quote.toNat, by omega⟩
     obtain ⟨i3, i4⟩ := i3
     by_cases h2 : dr t pos = 34
     ·obtain ⟨g1, g2, g3, g4⟩ := pscan_go hsp hen hlt HI.out.1 (st' := (⟨start, sep, ((qn : Nat) : Int), 1, addPV ps (t.extract start t.size) (t.extract (qn + 1) pos)⟩ : PS)) (by exact pstep4q hc h2)
      have HG : Hid (PInv (pos + dw t pos) (⟨start, sep, ((qn : Nat) : Int), 1, addPV ps (t.extract start t.size) (t.extract (qn + 1) pos)⟩ : PS) l.length ∧ pread t sp en l = (match scanAt (pstep t sp en) t (pos + dw t pos) (⟨start, sep, ((qn : Nat) : Int), 1, addPV ps (t.extract start t.size) (t.extract (qn + 1) pos)⟩ : PS) with | .inl (i, st) => pfin t i st | .inr st => pfin t t.size st)) := ⟨g3, by rw [← g4]; exact HI.out.2⟩
      clear g3 g4 HI
      go_upto_region 6 with fail
      apply wR
      refine Wl.step (fun K hK => ?_)
      refine step_next rfl _ rfl ib t pos (by kernel_rfl) hit hlt ?_
      intro w1 hit' hO
      replace hv := hv.iter hit hO
      replace hp := hp.iter hit hO
      replace hst := hst.fresh hO hibz
      have hS1 : Below 0 wr w1 := hO.below (Nat.zero_le _)
      have hbz := Nat.le_trans hbz (Nat.le_of_eq hO.size.symm)
      clear hit
      have hit : Itr w1 ib t (pos + dw t pos) := hit'
      clear hit' hO
      refine hK _ _ ?_
      clear hK K
      (try simp only [Act.put, zD, zE, zF])
      refine pQ [.bool true] ?_
      go_upto_region 7 with fail
      refine pS [.int .i64 (pos : Nat), .int .i32 (dr t pos : Nat), _, _] ?_
      go_upto_region 8 with fail
      refine pR [_, _] ?_
      refine ieF .i32 (dr t pos : Nat) (en : Nat) ?_
      refine wN ?_
      go_upto_region 10 with fail
      refine pS [_] ?_
      go_upto_region 11 with fail
      refine pS [.bool false, _] ?_
      go_upto_region 15 with fail
      refine pS [.bool false, _] ?_
      go_upto_region 22 with fail
      refine pS [.bool false, _] ?_
      go_upto_region 31 with fail
      refine pS [.bool true, _] ?_
      go_upto_region 32 with fail
      refine pR [_] ?_
      refine inF .i32 (dr t pos : Nat) 34 ?_
      refine wN ?_
      go_upto_region 33 with fail
      refine wp_region_noPanic ?_
      have hSd33 := hS1.drew
      have hzd33 := hSd33.size
      have hze33 : (w1).drew.heap.size = (w1).heap.size := rfl
      refine wp_region_held_drew (S := fun w' => Below (0) wr w') (by kernel_rfl) hSd33 (fun _ => ?_)
      replace hv := hv.grow (below_drew1 _)
      replace hp := hp.grow (below_drew1 _)
      replace hst := hst.grow (below_drew1 _)
      replace hit := hit.grow (below_drew1 _)
      refine tk 0 (.pointer (some ⟨b, q, none⟩)) rfl yR hSd33 ?_
      refine tk 1 (.string t) rfl yR hSd33 ?_
      refine tk 2 (.int .i64 (start : Nat)) rfl yR hSd33 ?_
      refine tk 3 (.string (t.extract ((start)) t.size)) rfl (yf_cut_l (by kernel_rfl) 9 underlying9 _ _ rfl t (by kernel_rfl) (start) (by kernel_rfl) (by omega)) hSd33 ?_
      refine tk 4 (.string t) rfl yR hSd33 ?_
      refine tk 5 (.int .i64 (qn : Nat)) rfl yR hSd33 ?_
      refine tk 6 (.int .i64 ((qn) + 1 : Nat)) rfl (yf_addN (by kernel_rfl) 3 3 _ _ rfl (qn) 1 (by kernel_rfl) (by kernel_rfl) (by omega)) hSd33 ?_
      refine tk 7 (.int .i64 (pos : Nat)) rfl yR hSd33 ?_
      refine tk 8 (.string (t.extract (((qn) + 1)) ((pos)))) rfl (yf_cut_lh (by kernel_rfl) 9 underlying9 _ _ _ rfl t (by kernel_rfl) ((qn) + 1) (pos) (by kernel_rfl) (by kernel_rfl) (by omega) (by omega)) hSd33 ?_
      refine rd 9 rfl (fun K hK => ?_)
      refine sC func128 #[.pointer (some ⟨b, q, none⟩), .string (t.extract start t.size), .string (t.extract (qn + 1) pos)] (add_c base b q _ v' L R T ps (t.extract start t.size) (t.extract (qn + 1) pos) hv hp hT (by have := hst.size; omega) (by have := HPL.out; omega)) ?_
      rintro e w2 ⟨v2, rfl, hv2, hp2, hst2⟩
      refine ⟨_, rfl, ?_⟩
      have hS2 : Below 0 wr w2 := hSd33.trans (hst2.low (Nat.zero_le _) (Nat.zero_le _) (Nat.zero_le _))
      replace hst := hst.trans hst2
      replace hit := hit.stp hst2 hv
      clear hv hp hst2
      have hv := hv2
      have hp := hp2
      clear hv2 hp2
      refine sh hK hS2 ?_
      clear hK K
      refine wpAnyH_done (by kernel_rfl) ?_ _
      refine NoPanic.normal ?_
      go_upto_region 34 with fail
      refine pS [_] ?_
      go_wp2
      go_roundw
      case rel => exact ⟨pos + dw t pos, (⟨start, sep, ((qn : Nat) : Int), 1, addPV ps (t.extract start t.size) (t.extract (qn + 1) pos)⟩ : PS), v2, g1, rfl, rfl, rfl, rfl, rfl, hit, hv, hp, hst, HG⟩
      case measure => rw [hit.pos]; omega
     ·obtain ⟨g1, g2, g3, g4⟩ := pscan_go hsp hen hlt HI.out.1 (st' := (⟨start, sep, ((qn : Nat) : Int), 4, ps⟩ : PS)) (by exact pstep4n hc h2)
      have HG : Hid (PInv (pos + dw t pos) (⟨start, sep, ((qn : Nat) : Int), 4, ps⟩ : PS) l.length ∧ pread t sp en l = (match scanAt (pstep t sp en) t (pos + dw t pos) (⟨start, sep, ((qn : Nat) : Int), 4, ps⟩ : PS) with | .inl (i, st) => pfin t i st | .inr st => pfin t t.size st)) := ⟨g3, by rw [← g4]; exact HI.out.2⟩
      clear g3 g4 HI
      go_upto_region 6 with fail
      apply wR
      refine Wl.step (fun K hK => ?_)
      refine step_next rfl _ rfl ib t pos (by kernel_rfl) hit hlt ?_
      intro w1 hit' hO
      replace hv := hv.iter hit hO
      replace hp := hp.iter hit hO
      replace hst := hst.fresh hO hibz
      have hS1 : Below 0 wr w1 := hO.below (Nat.zero_le _)
      have hbz := Nat.le_trans hbz (Nat.le_of_eq hO.size.symm)
      clear hit
      have hit : Itr w1 ib t (pos + dw t pos) := hit'
      clear hit' hO
      refine hK _ _ ?_
      clear hK K
      (try simp only [Act.put, zD, zE, zF])
      refine pQ [.bool true] ?_
      go_upto_region 7 with fail
      refine pS [.int .i64 (pos : Nat), .int .i32 (dr t pos : Nat), _, _] ?_
      go_upto_region 8 with fail
      refine pR [_, _] ?_
      refine ieF .i32 (dr t pos : Nat) (en : Nat) ?_
      refine wN ?_
      go_upto_region 10 with fail
      refine pS [_] ?_
      go_upto_region 11 with fail
      refine pS [.bool false, _] ?_
      go_upto_region 15 with fail
      refine pS [.bool false, _] ?_
      go_upto_region 22 with fail
      refine pS [.bool false, _] ?_
      go_upto_region 31 with fail
      refine pS [.bool true, _] ?_
      go_upto_region 32 with fail
      refine pR [_] ?_
      refine inT .i32 (dr t pos : Nat) 34 ?_
      refine wN ?_
      go_wp2
      go_roundw
      case rel => exact ⟨pos + dw t pos, (⟨start, sep, ((qn : Nat) : Int), 4, ps⟩ : PS), v', g1, rfl, rfl, rfl, rfl, rfl, hit, hv, hp, hst, HG⟩
      case measure => rw [hit.pos]; omega
  ·obtain rfl : pos = t.size := by omega
   have HF : Hid (pread t sp en l = pfin t t.size ⟨start, sep, quote, state, ps⟩) := by have := HI.out.2; rw [scanAt_end _ _ _ _ hlt] at this; exact this
   have i1 := HI.out.1.start
   have i2 := HI.out.1.sep
   have hpl := HI.out.1.len
   simp only [] at i1 i2 hpl
   have HPL : Hid (ps.length + 2 ≤ 4000000000000) := by unfold Hid; omega
   clear HI hpl
   go_upto_region 6 with fail
   apply wR
   refine Wl.step (fun K hK => ?_)
   refine step_next_end rfl _ rfl ib t t.size (by kernel_rfl) hit hlt ?_
   rintro _ rfl
   have hS1 := hs0
   refine hK _ _ ?_
   clear hK K
   (try simp only [Act.put, zD, zE, zF])
   refine pQ [.bool false] ?_
   by_cases h1 : 0 < sep ∧ start < sep
   ·obtain ⟨h1a, h1b⟩ := h1
    have HPF : Hid (pread t sp en l = (t.size, addPV ps (t.extract start sep) (t.extract (sep + 1) t.size))) := HF.out.trans (pfinA h1a h1b)
    clear HF
    go_upto_region 35 with fail
    refine pR [_] ?_
    refine igT .i64 (sep : Nat) 0 ?_
    refine pP [_, _] ?_
    refine ihT .i64 (t.size : Nat) 0 ?_
    refine pP [.bool true, _, _, _] ?_
    refine ilT .i64 (start : Nat) (sep : Nat) ?_
    refine pQ [.bool true] ?_
    go_upto_region 36 with fail
    refine wp_region_noPanic ?_
    have hSd36 := hs0.drew
    have hzd36 := hSd36.size
    have hze36 : (wr).drew.heap.size = (wr).heap.size := rfl
    refine wp_region_held_drew (S := fun w' => Below (0) wr w') (by kernel_rfl) hSd36 (fun _ => ?_)
    replace hv := hv.grow (below_drew1 _)
    replace hp := hp.grow (below_drew1 _)
    replace hst := hst.grow (below_drew1 _)
    replace hit := hit.grow (below_drew1 _)
    refine tk 0 (.pointer (some ⟨b, q, none⟩)) rfl yR hSd36 ?_
    refine tk 1 (.string t) rfl yR hSd36 ?_
    refine tk 2 (.int .i64 (start : Nat)) rfl yR hSd36 ?_
    refine tk 3 (.int .i64 (sep : Nat)) rfl yR hSd36 ?_
    refine tk 4 (.string (t.extract ((start)) ((sep)))) rfl (yf_cut_lh (by kernel_rfl) 9 underlying9 _ _ _ rfl t (by kernel_rfl) (start) (sep) (by kernel_rfl) (by kernel_rfl) (by omega) (by omega)) hSd36 ?_
    refine tk 5 (.string t) rfl yR hSd36 ?_
    refine tk 6 (.int .i64 (sep : Nat)) rfl yR hSd36 ?_
    refine tk 7 (.int .i64 ((sep) + 1 : Nat)) rfl (yf_addN (by kernel_rfl) 3 3 _ _ rfl (sep) 1 (by kernel_rfl) (by kernel_rfl) (by omega)) hSd36 ?_
    refine tk 8 (.int .i64 (t.size : Nat)) rfl yR hSd36 ?_
    refine tk 9 (.string (t.extract (((sep) + 1)) ((t.size)))) rfl (yf_cut_lh (by kernel_rfl) 9 underlying9 _ _ _ rfl t (by kernel_rfl) ((sep) + 1) (t.size) (by kernel_rfl) (by kernel_rfl) (by omega) (by omega)) hSd36 ?_
    refine rd 10 rfl (fun K hK => ?_)
    refine sC func128 #[.pointer (some ⟨b, q, none⟩), .string (t.extract start sep), .string (t.extract (sep + 1) t.size)] (add_c base b q _ v' L R T ps (t.extract start sep) (t.extract (sep + 1) t.size) hv hp hT (by have := hst.size; omega) (by have := HPL.out; omega)) ?_
    rintro e w1 ⟨v2, rfl, hv2, hp2, hst2⟩
    refine ⟨_, rfl, ?_⟩
    have hS1 : Below 0 wr w1 := hSd36.trans (hst2.low (Nat.zero_le _) (Nat.zero_le _) (Nat.zero_le _))
    replace hst := hst.trans hst2
    replace hit := hit.stp hst2 hv
    clear hv hp hst2
    have hv := hv2
    have hp := hp2
    clear hv2 hp2
    refine sh hK hS1 ?_
    clear hK K
    refine wpAnyH_done (by kernel_rfl) ?_ _
    refine NoPanic.normal ?_
    go_upto_region 37 with fail
    refine pR [_] ?_
    refine ieF .i64 (sep : Nat) 0 ?_
    refine pP [_] ?_
    refine Wl.u ?_
    refine Wl.u ?_
    refine Wl.u ?_
    refine pP [.bool false, _] ?_
    refine Wl.u ?_
    refine Wl.u ?_
    refine pQ [.bool false] ?_
    go_upto_region 39 with fail
    refine pS [_, _, _] ?_
    go_wp2
    go_ret2
    first | exact ⟨by rw [HPF.out]; rfl, v2, hv, by rw [HPF.out]; exact hp, hst⟩ | exact ⟨v2, by rw [HPF.out]; rfl, hv, by rw [HPF.out]; exact hp, hst⟩
   ·by_cases h2 : sep = 0
    ·subst h2
     by_cases h3 : start < t.size
     ·have HPF : Hid (pread t sp en l = (t.size, addPV ps (t.extract start t.size) ⟨#[]⟩)) := HF.out.trans (pfinB h3)
      clear HF
      go_upto_region 35 with fail
      refine pR [_] ?_
      refine igF .i64 (0 : Nat) 0 ?_
      refine pP [_] ?_
      refine Wl.u ?_
      refine Wl.u ?_
      refine pP [.bool false, _] ?_
      refine Wl.u ?_
      refine Wl.u ?_
      refine Wl.u ?_
      refine pQ [.bool false] ?_
      go_upto_region 37 with fail
      refine pR [_] ?_
      refine ieT .i64 (0 : Nat) 0 ?_
      refine pP [_, _, _] ?_
      refine ilT .i64 (start : Nat) (t.size : Nat) ?_
      refine pP [.bool true, _, _] ?_
      refine ihT .i64 (t.size : Nat) 0 ?_
      refine pQ [.bool true] ?_
      go_upto_region 38 with fail
      refine pR [_, _, _] ?_
      refine cuL t start underlying9 ?_
      refine cC func128 #[.pointer (some ⟨b, q, none⟩), .string (t.extract start t.size), .string (⟨#[]⟩)] (add_c base b q _ v' L R T ps (t.extract start t.size) (⟨#[]⟩) hv hp hT (by have := hst.size; omega) (by have := HPL.out; omega)) ?_
      rintro e w1 ⟨v2, rfl, hv2, hp2, hst2⟩
      refine cR ?_
      have hS1 : Below 0 wr w1 := hs0.trans (hst2.low (Nat.zero_le _) (Nat.zero_le _) (Nat.zero_le _))
      replace hst := hst.trans hst2
      replace hit := hit.stp hst2 hv
      clear hv hp hst2
      have hv := hv2
      have hp := hp2
      clear hv2 hp2
      refine wN ?_
      go_upto_region 39 with fail
      refine pS [_, _, _] ?_
      go_wp2
      go_ret2
      first | exact ⟨by rw [HPF.out]; rfl, v2, hv, by rw [HPF.out]; exact hp, hst⟩ | exact ⟨v2, by rw [HPF.out]; rfl, hv, by rw [HPF.out]; exact hp, hst⟩
     ·have HPF : Hid (pread t sp en l = (t.size, ps)) := HF.out.trans (pfinC h3)
      clear HF
      go_upto_region 35 with fail
      refine pR [_] ?_
      refine igF .i64 (0 : Nat) 0 ?_
      refine pP [_] ?_
      refine Wl.u ?_
      refine Wl.u ?_
      refine pP [.bool false, _] ?_
      refine Wl.u ?_
      refine Wl.u ?_
      refine Wl.u ?_
      refine pQ [.bool false] ?_
      go_upto_region 37 with fail
      refine pR [_] ?_
      refine ieT .i64 (0 : Nat) 0 ?_
      refine pP [_, _, _] ?_
      refine ilF .i64 (start : Nat) (t.size : Nat) ?_
      refine pP [.bool false, _] ?_
      refine Wl.u ?_
      refine Wl.u ?_
      refine pQ [.bool false] ?_
      go_upto_region 39 with fail
      refine pS [_, _, _] ?_
      go_wp2
      go_ret2
      first | exact ⟨by rw [HPF.out]; rfl, v', hv, by rw [HPF.out]; exact hp, hst⟩ | exact ⟨v', by rw [HPF.out]; rfl, hv, by rw [HPF.out]; exact hp, hst⟩
    ·have HPF : Hid (pread t sp en l = (t.size, ps)) := HF.out.trans (pfinD h2 h1)
     clear HF
     have h1a : 0 < sep := by omega
     have h1b : ¬ start < sep := fun h => h1 ⟨h1a, h⟩
     go_upto_region 35 with fail
     refine pR [_] ?_
     refine igT .i64 (sep : Nat) 0 ?_
     refine pP [_, _] ?_
     refine ihT .i64 (t.size : Nat) 0 ?_
     refine pP [.bool true, _, _, _] ?_
     refine ilF .i64 (start : Nat) (sep : Nat) ?_
     refine pQ [.bool false] ?_
     go_upto_region 37 with fail
     refine pR [_] ?_
     refine ieF .i64 (sep : Nat) 0 ?_
     refine pP [_] ?_
     refine Wl.u ?_
     refine Wl.u ?_
     refine Wl.u ?_
     refine pP [.bool false, _] ?_
     refine Wl.u ?_
     refine Wl.u ?_
     refine pQ [.bool false] ?_
     go_upto_region 39 with fail
     refine pS [_, _, _] ?_
     go_wp2
     go_ret2
     first | exact ⟨by rw [HPF.out]; rfl, v', hv, by rw [HPF.out]; exact hp, hst⟩ | exact ⟨v', by rw [HPF.out]; rfl, hv, by rw [HPF.out]; exact hp, hst⟩
end Go.Proofs.YtfcllhdhfenmcaaGreatDoor
