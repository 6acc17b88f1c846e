/- Part 31 of the proof: laws and walks (merged by a program). -/
import Derived.Test.YtfcllhdhfenmcaaGreatDoorK01
import Derived.Test.YtfcllhdhfenmcaaGreatDoorK09
import Derived.Test.YtfcllhdhfenmcaaGreatDoorK12
import Derived.Test.YtfcllhdhfenmcaaGreatDoorK13
import Derived.Test.YtfcllhdhfenmcaaGreatDoorK23
set_option linter.all false
set_option maxHeartbeats 8000000
set_option maxRecDepth 100000
namespace Go.Proofs.YtfcllhdhfenmcaaGreatDoor
open Go.RowKit Go.Proofs.Tryz
def verB : By := [83, 73, 80, 47, 50, 46, 48]
def startB (m : Ms) : Bool := if m.resp then decide (100 ≤ m.code ∧ m.code ≤ 699) && isReasonB m.reason else isLoudB m.method && isUriB m.uri
def headB (h : Hd) : Bool := !decide (h.t = 8) && isHeadB h
def headsB (l : List Hd) : Bool := decide (∀ i, i < l.length → headB (hdAt l i) = true)
def isMsgB (m : Ms) : Bool := decide (m.heads.length ≤ 64) && m.hasBody && !m.compact && decide (m.body.length ≤ 8192) && equalB m.ver verB && startB m && headsB m.heads && decide (textSizeL m ≤ 65536)
theorem headsB_not {l : List Hd} (i : Nat) (hi : i < l.length) (h : headB (hdAt l i) = false) : headsB l = false := by
 unfold headsB
 rw [decide_eq_false_iff_not]
 intro hh
 rw [hh i hi] at h
 cases h
theorem is_k (v : Value) (l key : By) (b : Bool) (s : ByteArray) (w : World) (h : Bs w v l) (hk : s.data.toList = key) (hs : s.size ≤ 4611686018427387904) (hb : equalB l key = b) :
 Calls Tryz.prog 17 #[v, .string s] w fun e w' => e = .returned (.bool b) ∧ Below w.heap.size w w' :=
 (is_c v l s w h hs).mono fun _ _ q => ⟨by rw [q.1, hk, hb], q.2⟩
theorem isMsg_c (cs : Array Value) (m : Ms) (w : World) (h : MsR w cs m) (hsm : m.Small) :
 Calls Tryz.prog 5 #[.agg cs] w fun e w' => e = .returned (.bool (isMsgB m)) ∧ Below w.heap.size w w' := by
 have HSM := Lib.hid hsm; clear hsm
 have HM := Lib.hid h
 obtain ⟨vM, eM, rM⟩ := h.method
 obtain ⟨vR, eR, rR⟩ := h.reason
 obtain ⟨vB, eB, rB⟩ := h.body
 obtain ⟨vV, eV, rV⟩ := h.ver
 obtain ⟨vH, eH, rH⟩ := h.heads
 obtain ⟨AM, nM, rfl⟩ := rM.shape
 obtain ⟨AR, nR, rfl⟩ := rR.shape
 obtain ⟨AB, nB, rfl⟩ := rB.shape
 obtain ⟨AV, nV, rfl⟩ := rV.shape
 obtain ⟨AH, nH, rfl, h1, h2, h3⟩ := rH
 have H3 := Lib.hid h3; clear h3
 have e0 := h.resp
 have e12 := h.code
 have e17 := h.hasBody
 have e18 := h.compact
 have c0 := h.codeLo
 have c1 := h.codeHi
 have hsz := h.size
 have HU := Lib.hid h.uri
 have hul : (cs.extract 2 12).size = 10 := by rw [Array.size_extract, hsz]; rfl
 have HUL := Lib.hid hul; clear hul
 have HZ := Lib.hid hsz; clear hsz
 clear h
 obtain ⟨lb, hlb⟩ : ∃ n, n = m.body.length := ⟨_, rfl⟩
 obtain ⟨lq, hlq⟩ : ∃ n, n = m.heads.length := ⟨_, rfl⟩
 rw [← hlb] at eB rB
 rw [← hlq] at eH h1 H3
 have HD : Hid (isMsgB m = (decide (lq ≤ 64) && m.hasBody && !m.compact && decide (lb ≤ 8192) && equalB m.ver verB && startB m && headsB m.heads && decide (textSizeL m ≤ 65536))) := by rw [hlb, hlq]; rfl
 have HLQ := Lib.hid hlq
 clear hlb hlq
 have hB := below_alloc w (.cells cs 28)
 by_cases g1 : 64 < lq
 ·go_enter func5, ntmps5
  go_wp2_with fail
  go_ret
  exact ⟨ret_bool (by rw [HD.out, decide_eq_false (by omega)]; rfl), hB⟩
 have hd1 : Hid (decide (lq ≤ 64) = true) := decide_eq_true (by omega)
 cases g2 : m.hasBody
 ·rw [g2] at e17
  go_enter func5, ntmps5
  go_wp2_with fail
  go_ret
  exact ⟨ret_bool (by rw [HD.out, hd1.out, g2]; rfl), hB⟩
 rw [g2] at e17
 cases g3 : m.compact
 case neg.true.true =>
  rw [g3] at e18
  go_enter func5, ntmps5
  go_wp2_with fail
  go_ret
  exact ⟨ret_bool (by rw [HD.out, hd1.out, g2, g3]; rfl), hB⟩
 rw [g3] at e18
 by_cases g4 : 8192 < lb
 ·go_enter func5, ntmps5
  go_wp2_with fail
  go_ret
  exact ⟨ret_bool (by rw [HD.out, hd1.out, g2, g3, decide_eq_false (show ¬ lb ≤ 8192 by omega)]; rfl), hB⟩
 have hd2 : Hid (decide (lb ≤ 8192) = true) := decide_eq_true (by omega)
 have HD2 : Hid (isMsgB m = (equalB m.ver verB && startB m && headsB m.heads && decide (textSizeL m ≤ 65536))) := by
  unfold Hid
  rw [HD.out, hd1.out, g2, g3, hd2.out]
  rfl
 clear HD hd1 hd2 g2 g3
 cases g5 : equalB m.ver verB
 ·have G5 := Lib.hid g5; clear g5
  go_enter func5, ntmps5
  go_wp2_with (go_at_call 17; refine (is_k _ m.ver verB _ _ _ (rV.alloc _) rfl (by decide) G5.out).mono ?_; rintro e w1 ⟨rfl, hb1⟩)
  go_ret
  exact ⟨ret_bool (by rw [HD2.out, G5.out]; rfl), bt2 hB hb1⟩
 have G5 := Lib.hid g5; clear g5
 have HD3 : Hid (isMsgB m = (startB m && headsB m.heads && decide (textSizeL m ≤ 65536))) := by
  unfold Hid
  rw [HD2.out, G5.out]
  rfl
 clear HD2
 obtain ⟨W0, hW0⟩ : ∃ W0, W0 = w.alloc (.cells cs 28) := ⟨_, rfl⟩
 have HC : Hid (∀ wr, Below (w.heap.size + 1) W0 wr → w.heap.size < wr.heap.size ∧ wr.cell? ⟨w.heap.size, 0, none⟩ = some (.bool m.resp) ∧ wr.cell? ⟨w.heap.size, 1, none⟩ = some (.slice AM m.method.length nM) ∧ wr.cell? ⟨w.heap.size, 12, none⟩ = some (.int .i64 m.code) ∧ wr.cell? ⟨w.heap.size, 13, none⟩ = some (.slice AR m.reason.length nR) ∧ wr.cell? ⟨w.heap.size, 15, none⟩ = some (.slice AH lq nH) ∧ CellsAt wr w.heap.size 0 cs) := fun wr hB => by
  have hl : w.heap.size < W0.heap.size := by rw [hW0]; simp
  have q : ∀ j v, cs[j]? = some v → wr.cell? ⟨w.heap.size, j, none⟩ = some v := fun j v hv => by
   rw [hB.cell (p := ⟨w.heap.size, j, none⟩) (by show w.heap.size < _; omega), hW0]
   simpa using cells_new w cs 28 (0, 0) j v hv
  exact ⟨by have := hB.size; omega, q _ _ e0, q _ _ eM, q _ _ e12, q _ _ eR, q _ _ eH, fun j v hv => by rw [Nat.zero_add]; exact q j v hv⟩
 have hB0 : Below (w.heap.size + 1) W0 (w.alloc (.cells cs 28)) := by rw [hW0]; exact Below.refl _ _
 have hW0s : W0.heap.size = w.heap.size + 1 := by rw [hW0]; simp
 have HWB : Hid (∀ wr, Below (w.heap.size + 1) W0 wr → Below w.heap.size w wr) := fun wr hB => by
  rw [hW0] at hB
  exact (below_alloc w _).trans (hB.mono (by omega))
 clear hW0
 go_enter func5, ntmps5
 go_upto_region 3 with (go_at_call 17; refine (is_k _ m.ver verB _ _ _ (rV.alloc _) rfl (by decide) G5.out).mono ?_; rintro e w1 ⟨rfl, hb1⟩)
 have hB1 : Below (w.heap.size + 1) W0 w1 := hB0.trans (hb1.mono (by simp))
 clear hb1 hB0 e0 eM eR eB eV eH e12 e17 e18
 obtain ⟨hz, d0, d1, d12, d13, d15, dC⟩ := HC.out w1 hB1
 have DC := Lib.hid dC; clear dC
 have HW1 := HWB.out w1 hB1
 replace rM := rM.grow HW1
 replace rR := rR.grow HW1
 go_cut [63] from 29 (fun t wr => t = .bool (!startB m) ∧ Below (w.heap.size + 1) W0 wr)
 case first =>
  have HS : Hid (startB m = (if m.resp then decide (100 ≤ m.code ∧ m.code ≤ 699) && isReasonB m.reason else isLoudB m.method && isUriB m.uri)) := rfl
  clear DC d0 d1 d12 d13 d15
  cases gr : m.resp
  ·have GR := Lib.hid gr; clear gr
   have HC0 : Hid (∀ wr, Below (w.heap.size + 1) W0 wr → wr.cell? ⟨w.heap.size, 0, none⟩ = some (.bool false)) := fun wr hB => by rw [← GR.out]; exact (HC.out wr hB).2.1
   cases gl : isLoudB m.method
   ·have GL := Lib.hid gl; clear gl
    go_upto_region 3 with fail
    refine pR [.pointer (some ⟨w.heap.size, 0, none⟩)] ?_
    refine Wl.ld (v := .bool false) (HC0.out _ hB1) underlying4 ?_
    refine pP [_] ?_
    refine Wl.u ?_
    refine Wl.u ?_
    refine Wl.u ?_
    refine Wl.u ?_
    refine Wl.u ?_
    refine Wl.u ?_
    refine Wl.u ?_
    refine Wl.u ?_
    refine Wl.u ?_
    refine Wl.u ?_
    refine Wl.u ?_
    refine Wl.u ?_
    refine Wl.u ?_
    refine Wl.u ?_
    refine pP [.bool false, _, .pointer (some ⟨w.heap.size, 0, none⟩)] ?_
    refine Wl.ld (v := .bool false) (HC0.out _ hB1) underlying4 ?_
    refine pP [.bool true, _, .pointer (some ⟨w.heap.size, 1, none⟩)] ?_
    refine Wl.ld (v := .slice AM m.method.length nM) ((HC.out _ hB1).2.2.1) underlying22 ?_
    refine Wl.step (fun K hK => ?_)
    refine sW func10 #[.slice AM m.method.length nM] (isLoud_c _ m.method _ rM) ?_
    rintro e w2 ⟨rfl, hb2⟩
    refine ⟨.bool false, by rw [GL.out], ?_⟩
    have hS2 : Below (w.heap.size + 1) W0 w2 := hb2 ▸ hB1
    refine hK _ _ ?_
    clear hK K
    (try simp only [Act.put, zD, zE, zF])
    refine pP [.bool true, _] ?_
    refine Wl.u ?_
    refine Wl.u ?_
    refine Wl.u ?_
    refine Wl.u ?_
    refine pQ [.bool true, .bool true, .bool true] ?_
    go_wp2_with fail
    go_meet
    case rel => exact ⟨by rw [HS.out, GR.out, GL.out]; rfl, hS2⟩
   ·have GL := Lib.hid gl; clear gl
    cases gu : isUriB m.uri
    ·have GU := Lib.hid gu; clear gu
     go_upto_region 3 with fail
     refine pR [.pointer (some ⟨w.heap.size, 0, none⟩)] ?_
     refine Wl.ld (v := .bool false) (HC0.out _ hB1) underlying4 ?_
     refine pP [_] ?_
     refine Wl.u ?_
     refine Wl.u ?_
     refine Wl.u ?_
     refine Wl.u ?_
     refine Wl.u ?_
     refine Wl.u ?_
     refine Wl.u ?_
     refine Wl.u ?_
     refine Wl.u ?_
     refine Wl.u ?_
     refine Wl.u ?_
     refine Wl.u ?_
     refine Wl.u ?_
     refine Wl.u ?_
     refine pP [.bool false, _, .pointer (some ⟨w.heap.size, 0, none⟩)] ?_
     refine Wl.ld (v := .bool false) (HC0.out _ hB1) underlying4 ?_
     refine pP [.bool true, _, .pointer (some ⟨w.heap.size, 1, none⟩)] ?_
     refine Wl.ld (v := .slice AM m.method.length nM) ((HC.out _ hB1).2.2.1) underlying22 ?_
     refine Wl.step (fun K hK => ?_)
     refine sW func10 #[.slice AM m.method.length nM] (isLoud_c _ m.method _ rM) ?_
     rintro e w2 ⟨rfl, hb2⟩
     refine ⟨.bool true, by rw [GL.out], ?_⟩
     have hS2 : Below (w.heap.size + 1) W0 w2 := hb2 ▸ hB1
     refine hK _ _ ?_
     clear hK K
     (try simp only [Act.put, zD, zE, zF])
     refine pP [.bool false, _, .pointer (some ⟨w.heap.size, 2, none⟩)] ?_
     refine yb (.agg (cs.extract 2 12)) hS2 (yA 25 w.heap.size 2 (cs.extract 2 12) underlying25 (by rw [HUL.out]; kernel_rfl) (fun w h => (HC.out w h).2.2.2.2.2.2.part 2 12 (by rw [HZ.out]; omega))) ?_
     refine Wl.step (fun K hK => ?_)
     refine sW func19 #[.agg (cs.extract 2 12)] (isUri_c _ m.uri _ (HU.out.grow (HWB.out _ hS2))) ?_
     rintro e w3 ⟨rfl, hb3⟩
     refine ⟨.bool false, by rw [GU.out], ?_⟩
     have hS3 : Below (w.heap.size + 1) W0 w3 := hS2.trans (hb3.mono (by have := hS2.size; omega))
     refine hK _ _ ?_
     clear hK K
     (try simp only [Act.put, zD, zE, zF])
     refine pQ [.bool true, .bool true, .bool true, .bool true] ?_
     go_wp2_with fail
     go_meet
     case rel => exact ⟨by rw [HS.out, GR.out, GL.out, GU.out]; rfl, hS3⟩
    ·have GU := Lib.hid gu; clear gu
     go_upto_region 3 with fail
     refine pR [.pointer (some ⟨w.heap.size, 0, none⟩)] ?_
     refine Wl.ld (v := .bool false) (HC0.out _ hB1) underlying4 ?_
     refine pP [_] ?_
     refine Wl.u ?_
     refine Wl.u ?_
     refine Wl.u ?_
     refine Wl.u ?_
     refine Wl.u ?_
     refine Wl.u ?_
     refine Wl.u ?_
     refine Wl.u ?_
     refine Wl.u ?_
     refine Wl.u ?_
     refine Wl.u ?_
     refine Wl.u ?_
     refine Wl.u ?_
     refine Wl.u ?_
     refine pP [.bool false, _, .pointer (some ⟨w.heap.size, 0, none⟩)] ?_
     refine Wl.ld (v := .bool false) (HC0.out _ hB1) underlying4 ?_
     refine pP [.bool true, _, .pointer (some ⟨w.heap.size, 1, none⟩)] ?_
     refine Wl.ld (v := .slice AM m.method.length nM) ((HC.out _ hB1).2.2.1) underlying22 ?_
     refine Wl.step (fun K hK => ?_)
     refine sW func10 #[.slice AM m.method.length nM] (isLoud_c _ m.method _ rM) ?_
     rintro e w2 ⟨rfl, hb2⟩
     refine ⟨.bool true, by rw [GL.out], ?_⟩
     have hS2 : Below (w.heap.size + 1) W0 w2 := hb2 ▸ hB1
     refine hK _ _ ?_
     clear hK K
     (try simp only [Act.put, zD, zE, zF])
     refine pP [.bool false, _, .pointer (some ⟨w.heap.size, 2, none⟩)] ?_
     refine yb (.agg (cs.extract 2 12)) hS2 (yA 25 w.heap.size 2 (cs.extract 2 12) underlying25 (by rw [HUL.out]; kernel_rfl) (fun w h => (HC.out w h).2.2.2.2.2.2.part 2 12 (by rw [HZ.out]; omega))) ?_
     refine Wl.step (fun K hK => ?_)
     refine sW func19 #[.agg (cs.extract 2 12)] (isUri_c _ m.uri _ (HU.out.grow (HWB.out _ hS2))) ?_
     rintro e w3 ⟨rfl, hb3⟩
     refine ⟨.bool true, by rw [GU.out], ?_⟩
     have hS3 : Below (w.heap.size + 1) W0 w3 := hS2.trans (hb3.mono (by have := hS2.size; omega))
     refine hK _ _ ?_
     clear hK K
     (try simp only [Act.put, zD, zE, zF])
     refine pQ [.bool false, .bool false, .bool false, .bool false] ?_
     go_wp2_with fail
     go_meet
     case rel => exact ⟨by rw [HS.out, GR.out, GL.out, GU.out]; rfl, hS3⟩
  ·have GR := Lib.hid gr; clear gr
   have HC0 : Hid (∀ wr, Below (w.heap.size + 1) W0 wr → wr.cell? ⟨w.heap.size, 0, none⟩ = some (.bool true)) := fun wr hB => by rw [← GR.out]; exact (HC.out wr hB).2.1
   by_cases k1 : m.code < 100
   ·skip
    go_upto_region 3 with fail
    refine pR [.pointer (some ⟨w.heap.size, 0, none⟩)] ?_
    refine Wl.ld (v := .bool true) (HC0.out _ hB1) underlying4 ?_
    refine pP [_, .pointer (some ⟨w.heap.size, 12, none⟩)] ?_
    refine Wl.ld (v := .int .i64 m.code) ((HC.out _ hB1).2.2.2.1) underlying3 ?_
    refine ilT .i64 m.code 100 ?_
    refine pP [_] ?_
    refine Wl.u ?_
    refine Wl.u ?_
    refine Wl.u ?_
    refine pP [.bool true, _] ?_
    refine Wl.u ?_
    refine Wl.u ?_
    refine Wl.u ?_
    refine Wl.u ?_
    refine pP [.bool true, .bool true, _] ?_
    refine Wl.u ?_
    refine Wl.u ?_
    refine Wl.u ?_
    refine Wl.u ?_
    refine Wl.u ?_
    refine Wl.u ?_
    refine Wl.u ?_
    refine Wl.u ?_
    refine Wl.u ?_
    refine Wl.u ?_
    refine Wl.u ?_
    refine Wl.u ?_
    refine Wl.u ?_
    refine Wl.u ?_
    refine Wl.u ?_
    refine pQ [.bool true] ?_
    go_wp2_with fail
    go_meet
    case rel => exact ⟨by rw [HS.out, GR.out, decide_eq_false (show ¬ (100 ≤ m.code ∧ m.code ≤ 699) by omega)]; rfl, hB1⟩
   ·by_cases k2 : 699 < m.code
    ·skip
     go_upto_region 3 with fail
     refine pR [.pointer (some ⟨w.heap.size, 0, none⟩)] ?_
     refine Wl.ld (v := .bool true) (HC0.out _ hB1) underlying4 ?_
     refine pP [_, .pointer (some ⟨w.heap.size, 12, none⟩)] ?_
     refine Wl.ld (v := .int .i64 m.code) ((HC.out _ hB1).2.2.2.1) underlying3 ?_
     refine ilF .i64 m.code 100 ?_
     refine pP [_, .pointer (some ⟨w.heap.size, 12, none⟩)] ?_
     refine Wl.ld (v := .int .i64 m.code) ((HC.out _ hB1).2.2.2.1) underlying3 ?_
     refine igT .i64 m.code 699 ?_
     refine pP [.bool true, _] ?_
     refine Wl.u ?_
     refine Wl.u ?_
     refine Wl.u ?_
     refine Wl.u ?_
     refine pP [.bool true, .bool true, _] ?_
     refine Wl.u ?_
     refine Wl.u ?_
     refine Wl.u ?_
     refine Wl.u ?_
     refine Wl.u ?_
     refine Wl.u ?_
     refine Wl.u ?_
     refine Wl.u ?_
     refine Wl.u ?_
     refine Wl.u ?_
     refine Wl.u ?_
     refine Wl.u ?_
     refine Wl.u ?_
     refine Wl.u ?_
     refine Wl.u ?_
     refine pQ [.bool true] ?_
     go_wp2_with fail
     go_meet
     case rel => exact ⟨by rw [HS.out, GR.out, decide_eq_false (show ¬ (100 ≤ m.code ∧ m.code ≤ 699) by omega)]; rfl, hB1⟩
    ·cases gu : isReasonB m.reason
     ·have GU := Lib.hid gu; clear gu
      go_upto_region 3 with fail
      refine pR [.pointer (some ⟨w.heap.size, 0, none⟩)] ?_
      refine Wl.ld (v := .bool true) (HC0.out _ hB1) underlying4 ?_
      refine pP [_, .pointer (some ⟨w.heap.size, 12, none⟩)] ?_
      refine Wl.ld (v := .int .i64 m.code) ((HC.out _ hB1).2.2.2.1) underlying3 ?_
      refine ilF .i64 m.code 100 ?_
      refine pP [_, .pointer (some ⟨w.heap.size, 12, none⟩)] ?_
      refine Wl.ld (v := .int .i64 m.code) ((HC.out _ hB1).2.2.2.1) underlying3 ?_
      refine igF .i64 m.code 699 ?_
      refine pP [.bool false, _, .pointer (some ⟨w.heap.size, 13, none⟩)] ?_
      refine Wl.ld (v := .slice AR m.reason.length nR) ((HC.out _ hB1).2.2.2.2.1) underlying22 ?_
      refine Wl.step (fun K hK => ?_)
      refine sW func18 #[.slice AR m.reason.length nR] (isReason_c _ m.reason _ rR) ?_
      rintro e w2 ⟨rfl, hb2⟩
      refine ⟨.bool false, by rw [GU.out], ?_⟩
      have hS2 : Below (w.heap.size + 1) W0 w2 := hB1.trans (hb2.mono (by have := hB1.size; omega))
      refine hK _ _ ?_
      clear hK K
      (try simp only [Act.put, zD, zE, zF])
      refine pP [.bool true, .bool true, .bool true, _] ?_
      refine Wl.u ?_
      refine Wl.u ?_
      refine Wl.u ?_
      refine Wl.u ?_
      refine Wl.u ?_
      refine Wl.u ?_
      refine Wl.u ?_
      refine Wl.u ?_
      refine Wl.u ?_
      refine Wl.u ?_
      refine Wl.u ?_
      refine Wl.u ?_
      refine Wl.u ?_
      refine Wl.u ?_
      refine Wl.u ?_
      refine pQ [.bool true] ?_
      go_wp2_with fail
      go_meet
      case rel => exact ⟨by rw [HS.out, GR.out, GU.out, decide_eq_true (show (100 ≤ m.code ∧ m.code ≤ 699) by omega)]; rfl, hS2⟩
     ·have GU := Lib.hid gu; clear gu
      go_upto_region 3 with fail
      refine pR [.pointer (some ⟨w.heap.size, 0, none⟩)] ?_
      refine Wl.ld (v := .bool true) (HC0.out _ hB1) underlying4 ?_
      refine pP [_, .pointer (some ⟨w.heap.size, 12, none⟩)] ?_
      refine Wl.ld (v := .int .i64 m.code) ((HC.out _ hB1).2.2.2.1) underlying3 ?_
      refine ilF .i64 m.code 100 ?_
      refine pP [_, .pointer (some ⟨w.heap.size, 12, none⟩)] ?_
      refine Wl.ld (v := .int .i64 m.code) ((HC.out _ hB1).2.2.2.1) underlying3 ?_
      refine igF .i64 m.code 699 ?_
      refine pP [.bool false, _, .pointer (some ⟨w.heap.size, 13, none⟩)] ?_
      refine Wl.ld (v := .slice AR m.reason.length nR) ((HC.out _ hB1).2.2.2.2.1) underlying22 ?_
      refine Wl.step (fun K hK => ?_)
      refine sW func18 #[.slice AR m.reason.length nR] (isReason_c _ m.reason _ rR) ?_
      rintro e w2 ⟨rfl, hb2⟩
      refine ⟨.bool true, by rw [GU.out], ?_⟩
      have hS2 : Below (w.heap.size + 1) W0 w2 := hB1.trans (hb2.mono (by have := hB1.size; omega))
      refine hK _ _ ?_
      clear hK K
      (try simp only [Act.put, zD, zE, zF])
      refine pP [.bool false, .bool false, .bool false, _, .pointer (some ⟨w.heap.size, 0, none⟩)] ?_
      refine Wl.ld (v := .bool true) (HC0.out _ hS2) underlying4 ?_
      refine pP [.bool false, _] ?_
      refine Wl.u ?_
      refine Wl.u ?_
      refine Wl.u ?_
      refine Wl.u ?_
      refine Wl.u ?_
      refine Wl.u ?_
      refine Wl.u ?_
      refine Wl.u ?_
      refine Wl.u ?_
      refine Wl.u ?_
      refine pQ [.bool false, .bool false] ?_
      go_wp2_with fail
      go_meet
      case rel => exact ⟨by rw [HS.out, GR.out, GU.out, decide_eq_true (show (100 ≤ m.code ∧ m.code ≤ 699) by omega)]; rfl, hS2⟩
 case rest =>
  obtain ⟨rfl, hB2⟩ := hcut
  clear hB1 HW1 rM rR d0 d1 d12 d13 d15 DC hz
  cases gs : startB m
  ·have GS := Lib.hid gs; clear gs
   go_wp2
   go_ret
   exact ⟨ret_bool (by rw [HD3.out, GS.out]; rfl), HWB.out _ hB2⟩
  ·have GS := Lib.hid gs; clear gs
   simp only [Bool.not_true]
   go_wp2
   go_loopw [3] (fun i wr => ∃ k : Nat, k ≤ lq ∧ i = .int .i64 k ∧ Below (w.heap.size + 1) W0 wr ∧ Hid (∀ j, j < k → headB (hdAt m.heads j) = true)) (fun i _ => lq - (intOf i).toNat)
   case atStart => exact ⟨0, Nat.zero_le _, rfl, hB2, fun j hj => by omega⟩
   case round =>
    obtain ⟨k, hk, rfl, hB, hall⟩ := hrel
    obtain ⟨hz, d0, d1, d12, d13, d15, dC⟩ := HC.out _ hB
    clear d0 d1 d12 d13
    have DC := Lib.hid dC; clear dC
    have hbw := HWB.out _ hB
    by_cases hlt : k < lq
    ·obtain ⟨b, o, rfl, hl0, hc⟩ := H3.out (by omega)
     obtain ⟨hcs, q0, g0⟩ := hc k hlt
     clear hc
     have HQ := Lib.hid (q0.grow hl0 hbw)
     have HG := Lib.hid (g0.grow hbw)
     have et : wr.cell? ⟨b, o + k * 21, none⟩ = some (.int .i64 (hdAt m.heads k).t) := by simpa using HQ.out 0 _ HG.out.t
     clear q0 g0
     have HHB : Hid (headB (hdAt m.heads k) = (!decide ((hdAt m.heads k).t = 8) && isHeadB (hdAt m.heads k))) := rfl
     obtain ⟨x, hx⟩ : ∃ x, x = hdAt m.heads k := ⟨_, rfl⟩
     rw [← hx] at et HG HHB
     have HX := Lib.hid hx; clear hx
     by_cases h8 : x.t = 8
     ·have b8 : (x.t == 8) = true := beq_iff_eq.2 h8
      have H8 := Lib.hid h8; clear h8
      go_wp2
      go_ret
      exact ⟨ret_bool (by rw [HD3.out, headsB_not k (by have := HLQ.out; omega) (by rw [← HX.out, HHB.out, decide_eq_true H8.out]; rfl)]; simp), hbw⟩
     ·have b8 : (x.t == 8) = false := beq_eq_false_iff_ne.2 h8
      have H8 := Lib.hid h8; clear h8
      cases gh : isHeadB x
      all_goals
       have GH := Lib.hid gh; clear gh
       go_wp2_with (first
        | (refine wpList_load_agg_g (o := ⟨_, .load 34 _, _, _, _, some _⟩) (by rfl) _ _ rfl (b) (o + k * 21) rfl (hcs) _ underlying34 rfl (infoHd.trans (congrArg some (Eq.symm (HG.out.size)))) (HQ.out) ?_)
        | (go_at_call 20; refine (isHead_c hcs x _ HG.out).mono ?_; rintro e w2 ⟨rfl, hb2⟩; rw [GH.out]))
      ·go_ret
       exact ⟨ret_bool (by rw [HD3.out, headsB_not k (by have := HLQ.out; omega) (by rw [← HX.out, HHB.out, GH.out]; simp)]; simp), hbw.trans (hb2.mono (by have := hbw.size; omega))⟩
      ·go_roundw
       case rel => exact ⟨k + 1, by omega, by go_num, hB.trans (hb2.mono (by omega)), hid_succ hall (by rw [← HX.out, HHB.out, GH.out, decide_eq_false H8.out]; rfl)⟩
       case measure => simp [intOf]; omega
    ·obtain rfl : k = lq := by omega
     have HH : Hid (headsB m.heads = true) := by
      unfold Hid headsB
      rw [decide_eq_true_eq]
      intro i hi
      exact hall.out i (by have := HLQ.out; omega)
     obtain ⟨n, hn⟩ : ∃ n, n = textSizeL m := ⟨_, rfl⟩
     by_cases h6 : n ≤ 65536
     all_goals
      go_wp2_with (first
       | (refine wpList_load_agg (o := ⟨_, .load 28 _, _, _, _, _⟩) rfl _ _ rfl (w.heap.size) (0) rfl (cs) _ underlying28 rfl (infoMs.trans (congrArg some (Eq.symm (HZ.out)))) (DC.out) ?_)
       | (go_at_call 21; refine (textSize_c cs m _ (HM.out.grow hbw) HSM.out).mono ?_; rintro e w2 ⟨rfl, hb2⟩; rw [← hn]))
      go_ret
     ·exact ⟨ret_bool (by rw [HD3.out, GS.out, HH.out, ← hn, decide_eq_true h6, decide_eq_true (show (n : Int) ≤ 65536 by omega)]; rfl), hbw.trans (hb2.mono (by have := hbw.size; omega))⟩
     ·exact ⟨ret_bool (by rw [HD3.out, GS.out, HH.out, ← hn, decide_eq_false h6, decide_eq_false (show ¬ (n : Int) ≤ 65536 by omega)]; rfl), hbw.trans (hb2.mono (by have := hbw.size; omega))⟩
end Go.Proofs.YtfcllhdhfenmcaaGreatDoor
