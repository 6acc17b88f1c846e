/- Part 12 of the proof: laws and walks (merged by a program). -/
import Derived.Test.YtfcllhdhfenmcaaGreatDoorK01
import Derived.Test.YtfcllhdhfenmcaaGreatDoorK11
set_option linter.all false
set_option maxHeartbeats 8000000
set_option maxRecDepth 100000
namespace Go.Proofs.YtfcllhdhfenmcaaGreatDoor
open Go.RowKit Go.Proofs.Tryz
theorem arr10 {α : Type} (cs : Array α) (h : cs.size = 10) : ∃ a b c d e f g i j k, cs = #[a, b, c, d, e, f, g, i, j, k] := by
 obtain ⟨l⟩ := cs
 match l, h with
 | [a, b, c, d, e, f, g, i, j, k], _ => exact ⟨a, b, c, d, e, f, g, i, j, k, rfl⟩
theorem UrR.lit {w : World} {cs : Array Value} {u : Ur} (h : UrR w cs u) : ∃ A0 l0 n0 A1 l1 n1 st sl A4 l4 n4 A5 l5 n5 A6 l6 n6 pt A8 l8 n8 A9 l9 n9, cs = #[.slice A0 l0 n0, .slice A1 l1 n1, .bool st, .bool sl, .slice A4 l4 n4, .slice A5 l5 n5, .slice A6 l6 n6, .int .i64 pt, .slice A8 l8 n8, .slice A9 l9 n9] := by
 obtain ⟨a, b, c, d, e, f, g, i, j, k, rfl⟩ := arr10 cs h.size
 obtain ⟨v0, e0, r0⟩ := h.scheme
 obtain ⟨v1, e1, r1⟩ := h.raw
 obtain ⟨v4, e4, r4⟩ := h.user
 obtain ⟨v5, e5, r5⟩ := h.pass
 obtain ⟨v6, e6, r6⟩ := h.host
 obtain ⟨v8, e8, r8⟩ := h.ps
 obtain ⟨v9, e9, r9⟩ := h.hs
 have e2 := h.star
 have e3 := h.slashes
 have e7 := h.port
 obtain ⟨A0, n0, rfl⟩ := r0.shape
 obtain ⟨A1, n1, rfl⟩ := r1.shape
 obtain ⟨A4, n4, rfl⟩ := r4.shape
 obtain ⟨A5, n5, rfl⟩ := r5.shape
 obtain ⟨A6, n6, rfl⟩ := r6.shape
 obtain ⟨A8, n8, rfl⟩ := r8.shape
 obtain ⟨A9, n9, rfl⟩ := r9.shape
 simp at e0 e1 e2 e3 e4 e5 e6 e7 e8 e9
 subst e0 e1 e2 e3 e4 e5 e6 e7 e8 e9
 exact ⟨_, _, _, _, _, _, _, _, _, _, _, _, _, _, _, _, _, _, _, _, _, _, _, _, rfl⟩
def headSize (h : Hd) : Nat := 99 + h.name.length + h.text.length + h.disp.length + (uriTextL h.uri).length + (ptextTo [59] h.ps h.ps.length).length + h.tr.length + h.host.length
def sizeOn : List Hd → Nat → Nat
 | [], n => n
 | h :: t, n => if n ≤ 65536 then sizeOn t (n + headSize h) else n
def textSizeL (m : Ms) : Nat := sizeOn m.heads (m.body.length + m.method.length + m.reason.length + (uriTextL m.uri).length + 99)
theorem sizeOn_step (l : List Hd) (k n : Nat) (hk : k < l.length) (hn : n ≤ 65536) : sizeOn (l.drop k) n = sizeOn (l.drop (k + 1)) (n + headSize (hdAt l k)) := by
 rw [List.drop_eq_getElem_cons hk, sizeOn, if_pos hn, hdAt_get l k hk]
theorem sizeOn_stop (l : List Hd) (n : Nat) (h : l = [] ∨ 65536 < n) : sizeOn l n = n := by
 rcases h with rfl | h
 ·rfl
 ·cases l with
  | nil => rfl
  | cons a t => rw [sizeOn, if_neg (by omega)]
theorem ret_int {a b : Int} (h : a = b) : Ending.returned (.int .i64 a) = .returned (.int .i64 b) := by rw [h]
theorem Ow.atn {base : Nat} {w : World} {v : Value} {l : By} (h : Ow base w v l) (n : Nat) (hn : n = l.length) : ∃ A c, v = .slice A n c := by
 subst hn
 exact h.one
theorem textSize_c (cs : Array Value) (m : Ms) (w : World) (h : MsR w cs m) (hsm : m.Small) :
 Calls Tryz.prog 21 #[.agg cs] w fun e w' => e = .returned (.int .i64 (textSizeL m)) ∧ Below w.heap.size w w' := by
 have HSM := Lib.hid hsm; clear hsm
 obtain ⟨A0, l0, n0, A1, l1, n1, st, sl, A4, l4, n4, A5, l5, n5, A6, l6, n6, pt, A8, l8, n8, A9, l9, n9, hlit⟩ := h.uri.lit
 have hU := h.uri
 rw [hlit] at hU
 obtain ⟨vM, eM, rM⟩ := h.method
 obtain ⟨vR, eR, rR⟩ := h.reason
 obtain ⟨vB, eB, rB⟩ := h.body
 obtain ⟨vH, eH, rH⟩ := h.heads
 obtain ⟨AM, nM, rfl⟩ := rM.shape
 obtain ⟨AR, nR, rfl⟩ := rR.shape
 obtain ⟨AB, nB, rfl⟩ := rB.shape
 obtain ⟨AH, nH, rfl, h1, h2, h3⟩ := rH
 have H3 := Lib.hid h3; clear h3
 have hsz := h.size
 have bM := HSM.out.method
 have bR := HSM.out.reason
 have bB := HSM.out.body
 have bX := uriTextL_le HSM.out.uri hU.portHi
 have eU : ∀ j v, (#[.slice A0 l0 n0, .slice A1 l1 n1, .bool st, .bool sl, .slice A4 l4 n4, .slice A5 l5 n5, .slice A6 l6 n6, .int .i64 pt, .slice A8 l8 n8, .slice A9 l9 n9] : Array Value)[j]? = some v → cs[2 + j]? = some v := fun j v hv => by
  rw [← hlit] at hv
  have hj : 2 + j < 12 := by
   have := (Array.getElem?_eq_some_iff.1 hv).1
   simp [Nat.min_eq_left (show 12 ≤ cs.size by omega)] at this
   omega
  rw [ext_cell hj (by omega)] at hv
  exact hv
 clear h hlit
 obtain ⟨W0, hW0⟩ : ∃ W0, W0 = w.alloc (.cells cs 28) := ⟨_, rfl⟩
 obtain ⟨lm, hlm⟩ : ∃ n, n = m.method.length := ⟨_, rfl⟩
 obtain ⟨lr, hlr⟩ : ∃ n, n = m.reason.length := ⟨_, rfl⟩
 obtain ⟨lb, hlb⟩ : ∃ n, n = m.body.length := ⟨_, rfl⟩
 obtain ⟨lx, hlx⟩ : ∃ n, n = (uriTextL m.uri).length := ⟨_, rfl⟩
 obtain ⟨lq, hlq⟩ : ∃ n, n = m.heads.length := ⟨_, rfl⟩
 have HTS : Hid (textSizeL m = sizeOn m.heads (lb + lm + lr + lx + 99)) := by rw [hlm, hlr, hlb, hlx]; rfl
 rw [← hlm] at eM rM bM
 rw [← hlr] at eR rR bR
 rw [← hlb] at eB rB bB
 rw [← hlx] at bX
 rw [← hlq] at eH h1 H3
 have HLX := Lib.hid hlx
 have HLQ := Lib.hid hlq
 clear hlm hlr hlb hlx hlq
 have HU : Hid (∀ wr, Below (w.heap.size + 1) W0 wr → UrR wr #[.slice A0 l0 n0, .slice A1 l1 n1, .bool st, .bool sl, .slice A4 l4 n4, .slice A5 l5 n5, .slice A6 l6 n6, .int .i64 pt, .slice A8 l8 n8, .slice A9 l9 n9] m.uri) := fun wr hB => by
  subst hW0
  exact hU.grow ((below_alloc w _).trans (hB.mono (by simp)))
 have HC : Hid (∀ wr, Below (w.heap.size + 1) W0 wr → wr.cell? ⟨w.heap.size, 2, none⟩ = some ((.slice A0 l0 n0)) ∧ wr.cell? ⟨w.heap.size, 3, none⟩ = some ((.slice A1 l1 n1)) ∧ wr.cell? ⟨w.heap.size, 4, none⟩ = some ((.bool st)) ∧ wr.cell? ⟨w.heap.size, 5, none⟩ = some ((.bool sl)) ∧ wr.cell? ⟨w.heap.size, 6, none⟩ = some ((.slice A4 l4 n4)) ∧ wr.cell? ⟨w.heap.size, 7, none⟩ = some ((.slice A5 l5 n5)) ∧ wr.cell? ⟨w.heap.size, 8, none⟩ = some ((.slice A6 l6 n6)) ∧ wr.cell? ⟨w.heap.size, 9, none⟩ = some ((.int .i64 pt)) ∧ wr.cell? ⟨w.heap.size, 10, none⟩ = some ((.slice A8 l8 n8)) ∧ wr.cell? ⟨w.heap.size, 11, none⟩ = some ((.slice A9 l9 n9)) ∧ wr.cell? ⟨w.heap.size, 1, none⟩ = some (.slice AM lm nM) ∧ wr.cell? ⟨w.heap.size, 13, none⟩ = some (.slice AR lr nR) ∧ wr.cell? ⟨w.heap.size, 16, none⟩ = some (.slice AB lb nB)) := fun wr hB => by
  have hn := cells_new w cs 28 (0, 0)
  have hl : w.heap.size < W0.heap.size := by rw [hW0]; simp
  have q : ∀ j v, cs[j]? = some v → wr.cell? ⟨w.heap.size, j, none⟩ = some v := fun j v hv => by
   rw [hB.cell (p := ⟨w.heap.size, j, none⟩) (by show w.heap.size < _; omega), hW0]
   simpa using hn j v hv
  exact ⟨q _ _ (eU 0 _ rfl), q _ _ (eU 1 _ rfl), q _ _ (eU 2 _ rfl), q _ _ (eU 3 _ rfl), q _ _ (eU 4 _ rfl), q _ _ (eU 5 _ rfl), q _ _ (eU 6 _ rfl), q _ _ (eU 7 _ rfl), q _ _ (eU 8 _ rfl), q _ _ (eU 9 _ rfl), q _ _ eM, q _ _ eR, q _ _ eB⟩
 have HH : Hid (∀ wr, Below (w.heap.size + 1) W0 wr → w.heap.size < wr.heap.size ∧ wr.cell? ⟨w.heap.size, 15, none⟩ = some (.slice AH lq nH)) := fun wr hB => by
  have hl : w.heap.size < W0.heap.size := by rw [hW0]; simp
  have := hB.size
  refine ⟨by omega, ?_⟩
  rw [hB.cell (p := ⟨w.heap.size, 15, none⟩) (by show w.heap.size < _; omega), hW0]
  simpa using cells_new w cs 28 (0, 0) 15 _ eH
 have hB0 : Below (w.heap.size + 1) W0 (w.alloc (.cells cs 28)) := by rw [hW0]; exact Below.refl _ _
 have hW0s : W0.heap.size = w.heap.size + 1 := by rw [hW0]; simp
 have HW0 := Lib.hid hW0; clear hW0
 clear eU hU eM eR eB eH rM rR rB
 obtain ⟨d0, d1, d2, d3, d4, d5, d6, d7, d8, d9, d10, d11, d12⟩ := HC.out _ hB0
 have s1 : IntKind.i64.wrap ((lb : Int) + (lm : Int)) = (lb : Int) + (lm : Int) := IntWalk.i64_in _ (by omega)
 have s2 : IntKind.i64.wrap ((lb : Int) + (lm : Int) + (lr : Int)) = (lb : Int) + (lm : Int) + (lr : Int) := IntWalk.i64_in _ (by omega)
 have s3 : IntKind.i64.wrap ((lb : Int) + (lm : Int) + (lr : Int) + (lx : Int)) = (lb : Int) + (lm : Int) + (lr : Int) + (lx : Int) := IntWalk.i64_in _ (by omega)
 have s4 : IntKind.i64.wrap ((lb : Int) + (lm : Int) + (lr : Int) + (lx : Int) + 99) = (lb : Int) + (lm : Int) + (lr : Int) + (lx : Int) + 99 := IntWalk.i64_in _ (by omega)
 go_enter func21, ntmps21
 go_upto_region 1 with fail
 go_region_held3 (fun w' => w'.cell? ⟨w.heap.size, 2, none⟩ = some ((.slice A0 l0 n0)) ∧ w'.cell? ⟨w.heap.size, 3, none⟩ = some ((.slice A1 l1 n1)) ∧ w'.cell? ⟨w.heap.size, 4, none⟩ = some ((.bool st)) ∧ w'.cell? ⟨w.heap.size, 5, none⟩ = some ((.bool sl)) ∧ w'.cell? ⟨w.heap.size, 6, none⟩ = some ((.slice A4 l4 n4)) ∧ w'.cell? ⟨w.heap.size, 7, none⟩ = some ((.slice A5 l5 n5)) ∧ w'.cell? ⟨w.heap.size, 8, none⟩ = some ((.slice A6 l6 n6)) ∧ w'.cell? ⟨w.heap.size, 9, none⟩ = some ((.int .i64 pt)) ∧ w'.cell? ⟨w.heap.size, 10, none⟩ = some ((.slice A8 l8 n8)) ∧ w'.cell? ⟨w.heap.size, 11, none⟩ = some ((.slice A9 l9 n9)) ∧ w'.cell? ⟨w.heap.size, 1, none⟩ = some (.slice AM lm nM) ∧ w'.cell? ⟨w.heap.size, 13, none⟩ = some (.slice AR lr nR) ∧ w'.cell? ⟨w.heap.size, 16, none⟩ = some (.slice AB lb nB))
  (first | go_keep | exact HC.out _ hB1)
  (first | (go_simp; go_at_call 46; refine (uriText_c _ m.uri _ (HU.out _ hB0.drew) HSM.out.uri).mono ?_; rintro e w1 ⟨r1, rfl, hr1, hb1⟩; have hB1 := hB0.drew.trans (hb1.mono (by first | (simp; done) | (simp; omega) | omega)); obtain ⟨A1', C1', rfl⟩ := hr1.atn lx HLX.out))
 clear s1 s2 s3 s4 d0 d1 d2 d3 d4 d5 d6 d7 d8 d9 d10 d11 d12
 obtain ⟨N0, hN0⟩ : ∃ n, n = lb + lm + lr + lx + 99 := ⟨_, rfl⟩
 have hN : (lb : Int) + (lm : Int) + (lr : Int) + (lx : Int) + 99 = (N0 : Int) := by omega
 rw [hN]
 have hN1 : N0 ≤ 8000000000000 := by omega
 rw [← hN0] at HTS
 have HNN := Lib.hid hN; clear hN hN0
 have hlq : lq ≤ 1048576 := by have := HSM.out.heads.len; have := HLQ.out; omega
 go_wp2
 go_loopw [3, 4] (fun nn i wr => ∃ k n : Nat, k ≤ lq ∧ i = .int .i64 k ∧ nn = .int .i64 n ∧ n ≤ 16000000000000 ∧ Hid (sizeOn (m.heads.drop k) n = textSizeL m) ∧ Below (w.heap.size + 1) W0 wr) (fun _ i _ => lq - (intOf i).toNat)
 case atStart => exact ⟨0, N0, Nat.zero_le _, rfl, rfl, by omega, HTS.out.symm, hB1⟩
 case round =>
  obtain ⟨k, n, hk, rfl, rfl, hn, hrem, hB⟩ := hrel
  obtain ⟨hzz, d15⟩ := HH.out _ hB
  by_cases hlt : k < lq
  ·by_cases hn6 : n ≤ 65536
   ·clear HC HU
    obtain ⟨b, o, rfl, hl0, hc⟩ := H3.out (by omega)
    obtain ⟨hcs, q0, g0⟩ := hc k hlt
    clear hc
    have hbw : Below w.heap.size w wr := by
     have := HW0.out
     rw [this] at hB
     exact (below_alloc w _).trans (hB.mono (by omega))
    have HQ := Lib.hid (q0.grow hl0 hbw)
    have G := g0.grow hbw
    clear q0 g0
    obtain ⟨x, hx⟩ : ∃ x, x = hdAt m.heads k := ⟨_, rfl⟩
    have hsx : x.Small := by rw [hx]; exact HSM.out.heads.each k (by have := HLQ.out; omega)
    have hstep : Hid (sizeOn (m.heads.drop k) n = sizeOn (m.heads.drop (k + 1)) (n + headSize x)) := by rw [hx]; exact sizeOn_step _ _ _ (by have := HLQ.out; omega) hn6
    rw [← hx] at G
    clear hx
    have HG := Lib.hid G
    obtain ⟨A0, l0, n0, A1, l1, n1, st, sl, A4, l4, n4, A5, l5, n5, A6, l6, n6, pt, A8, l8, n8, A9, l9, n9, hlit⟩ := G.uri.lit
    have gU := G.uri
    rw [hlit] at gU
    obtain ⟨vN, eN, rN⟩ := G.name
    obtain ⟨vT, eT, rT⟩ := G.text
    obtain ⟨vD, eD, rD⟩ := G.disp
    obtain ⟨vP, eP, rP⟩ := G.ps
    obtain ⟨vS, eS, rS⟩ := G.tr
    obtain ⟨vO, eO, rO⟩ := G.host
    obtain ⟨AN, nN, rfl⟩ := rN.shape
    obtain ⟨AT, nT, rfl⟩ := rT.shape
    obtain ⟨AD, nD, rfl⟩ := rD.shape
    obtain ⟨AP, nP, rfl⟩ := rP.shape
    obtain ⟨AS, nS, rfl⟩ := rS.shape
    obtain ⟨AO, nO, rfl⟩ := rO.shape
    have gs := G.size
    have gp := G.uri.portHi
    have eU : ∀ j v, (#[.slice A0 l0 n0, .slice A1 l1 n1, .bool st, .bool sl, .slice A4 l4 n4, .slice A5 l5 n5, .slice A6 l6 n6, .int .i64 pt, .slice A8 l8 n8, .slice A9 l9 n9] : Array Value)[j]? = some v → hcs[4 + j]? = some v := fun j v hv => by
     rw [← hlit] at hv
     have hj : 4 + j < 14 := by
      have := (Array.getElem?_eq_some_iff.1 hv).1
      simp [Nat.min_eq_left (show 14 ≤ hcs.size by omega)] at this
      omega
     rw [ext_cell hj (by omega)] at hv
     exact hv
    clear G hlit
    obtain ⟨ln, hln⟩ : ∃ n, n = x.name.length := ⟨_, rfl⟩
    obtain ⟨lt, hlt'⟩ : ∃ n, n = x.text.length := ⟨_, rfl⟩
    obtain ⟨ld, hld⟩ : ∃ n, n = x.disp.length := ⟨_, rfl⟩
    obtain ⟨lx, hlx⟩ : ∃ n, n = (uriTextL x.uri).length := ⟨_, rfl⟩
    obtain ⟨lp, hlp⟩ : ∃ n, n = (ptextTo [59] x.ps x.ps.length).length := ⟨_, rfl⟩
    obtain ⟨ls, hls⟩ : ∃ n, n = x.tr.length := ⟨_, rfl⟩
    obtain ⟨lo, hlo⟩ : ∃ n, n = x.host.length := ⟨_, rfl⟩
    have HHS : Hid (headSize x = 99 + ln + lt + ld + lx + lp + ls + lo) := by rw [hln, hlt', hld, hlx, hlp, hls, hlo]; rfl
    have bN := hsx.name
    have bT := hsx.text
    have bD := hsx.disp
    have bX := uriTextL_le hsx.uri gp
    have bP := ptext_le 59 hsx.ps
    have bS := hsx.tr
    have bO := hsx.host
    rw [← hln] at eN rN bN
    rw [← hlt'] at eT rT bT
    rw [← hld] at eD rD bD
    rw [← hlx] at bX
    rw [← hlp] at bP
    rw [← hls] at eS rS bS
    rw [← hlo] at eO rO bO
    have HLX2 := Lib.hid hlx
    have HLP2 := Lib.hid hlp
    clear hln hlt' hld hlx hlp hls hlo rN rT rD rS rO
    have HX := Lib.hid hsx; clear hsx
    obtain ⟨V0, hV0⟩ : ∃ V0, V0 = wr.alloc (.cells hcs 34) := ⟨_, rfl⟩
    have HU2 : Hid (∀ wx, Below (wr.heap.size + 1) V0 wx → UrR wx #[.slice A0 l0 n0, .slice A1 l1 n1, .bool st, .bool sl, .slice A4 l4 n4, .slice A5 l5 n5, .slice A6 l6 n6, .int .i64 pt, .slice A8 l8 n8, .slice A9 l9 n9] x.uri) := fun wx hB => by
     subst hV0
     exact gU.grow ((below_alloc wr _).trans (hB.mono (by simp)))
    have HP2 : Hid (∀ wx, Below (wr.heap.size + 1) V0 wx → KVs wx (.slice AP x.ps.length nP) x.ps) := fun wx hB => by
     subst hV0
     exact rP.grow ((below_alloc wr _).trans (hB.mono (by simp)))
    have HC2 : Hid (∀ wx, Below (wr.heap.size + 1) V0 wx → wx.cell? ⟨wr.heap.size, 4, none⟩ = some ((.slice A0 l0 n0)) ∧ wx.cell? ⟨wr.heap.size, 5, none⟩ = some ((.slice A1 l1 n1)) ∧ wx.cell? ⟨wr.heap.size, 6, none⟩ = some ((.bool st)) ∧ wx.cell? ⟨wr.heap.size, 7, none⟩ = some ((.bool sl)) ∧ wx.cell? ⟨wr.heap.size, 8, none⟩ = some ((.slice A4 l4 n4)) ∧ wx.cell? ⟨wr.heap.size, 9, none⟩ = some ((.slice A5 l5 n5)) ∧ wx.cell? ⟨wr.heap.size, 10, none⟩ = some ((.slice A6 l6 n6)) ∧ wx.cell? ⟨wr.heap.size, 11, none⟩ = some ((.int .i64 pt)) ∧ wx.cell? ⟨wr.heap.size, 12, none⟩ = some ((.slice A8 l8 n8)) ∧ wx.cell? ⟨wr.heap.size, 13, none⟩ = some ((.slice A9 l9 n9)) ∧ wx.cell? ⟨wr.heap.size, 1, none⟩ = some (.slice AN ln nN) ∧ wx.cell? ⟨wr.heap.size, 2, none⟩ = some (.slice AT lt nT) ∧ wx.cell? ⟨wr.heap.size, 3, none⟩ = some (.slice AD ld nD) ∧ wx.cell? ⟨wr.heap.size, 14, none⟩ = some (.slice AP x.ps.length nP) ∧ wx.cell? ⟨wr.heap.size, 18, none⟩ = some (.slice AS ls nS) ∧ wx.cell? ⟨wr.heap.size, 19, none⟩ = some (.slice AO lo nO)) := fun wx hB => by
     have hl : wr.heap.size < V0.heap.size := by rw [hV0]; simp
     have q : ∀ j v, hcs[j]? = some v → wx.cell? ⟨wr.heap.size, j, none⟩ = some v := fun j v hv => by
      rw [hB.cell (p := ⟨wr.heap.size, j, none⟩) (by show wr.heap.size < _; omega), hV0]
      simpa using cells_new wr hcs 34 (0, 0) j v hv
     exact ⟨q _ _ (eU 0 _ rfl), q _ _ (eU 1 _ rfl), q _ _ (eU 2 _ rfl), q _ _ (eU 3 _ rfl), q _ _ (eU 4 _ rfl), q _ _ (eU 5 _ rfl), q _ _ (eU 6 _ rfl), q _ _ (eU 7 _ rfl), q _ _ (eU 8 _ rfl), q _ _ (eU 9 _ rfl), q _ _ eN, q _ _ eT, q _ _ eD, q _ _ eP, q _ _ eS, q _ _ eO⟩
    have hBa : Below (wr.heap.size + 1) V0 (wr.alloc (.cells hcs 34)) := by rw [hV0]; exact Below.refl _ _
    have hV0s : V0.heap.size = wr.heap.size + 1 := by rw [hV0]; simp
    have HV0 := Lib.hid hV0; clear hV0
    have HGS := Lib.hid gs
    clear eU gU eN eT eD eP eS eO rP gs
    obtain ⟨f0, f1, f2, f3, f4, f5, f6, f7, f8, f9, f10, f11, f12, f13, f14, f15⟩ := HC2.out _ hBa
    go_upto_region 6 with (first | (refine wpList_load_agg (o := ⟨_, .load 34 _, _, _, _, _⟩) rfl _ _ rfl (b) (o + k * 21) rfl (hcs) _ underlying34 rfl (infoHd.trans (congrArg some (Eq.symm (HGS.out)))) (HQ.out) ?_) | (refine wpList_store_agg (o := ⟨_, .store 34 _ _, _, _, _, _⟩) rfl _ _ _ rfl _ (hcs) rfl rfl (infoHd.trans (congrArg some (Eq.symm (HGS.out)))) (Eq.symm (HGS.out)) (HG.out.one) ?_))
    have s1 : IntKind.i64.wrap (99 + (ln : Int)) = 99 + (ln : Int) := IntWalk.i64_in _ (by omega)
    have s2 : IntKind.i64.wrap (99 + (ln : Int) + (lt : Int)) = 99 + (ln : Int) + (lt : Int) := IntWalk.i64_in _ (by omega)
    have s3 : IntKind.i64.wrap (99 + (ln : Int) + (lt : Int) + (ld : Int)) = 99 + (ln : Int) + (lt : Int) + (ld : Int) := IntWalk.i64_in _ (by omega)
    have s4 : IntKind.i64.wrap (99 + (ln : Int) + (lt : Int) + (ld : Int) + (lx : Int)) = 99 + (ln : Int) + (lt : Int) + (ld : Int) + (lx : Int) := IntWalk.i64_in _ (by omega)
    have s5 : IntKind.i64.wrap (99 + (ln : Int) + (lt : Int) + (ld : Int) + (lx : Int) + (lp : Int)) = 99 + (ln : Int) + (lt : Int) + (ld : Int) + (lx : Int) + (lp : Int) := IntWalk.i64_in _ (by omega)
    have s6 : IntKind.i64.wrap (99 + (ln : Int) + (lt : Int) + (ld : Int) + (lx : Int) + (lp : Int) + (ls : Int)) = 99 + (ln : Int) + (lt : Int) + (ld : Int) + (lx : Int) + (lp : Int) + (ls : Int) := IntWalk.i64_in _ (by omega)
    have s7 : IntKind.i64.wrap (99 + (ln : Int) + (lt : Int) + (ld : Int) + (lx : Int) + (lp : Int) + (ls : Int) + (lo : Int)) = 99 + (ln : Int) + (lt : Int) + (ld : Int) + (lx : Int) + (lp : Int) + (ls : Int) + (lo : Int) := IntWalk.i64_in _ (by omega)
    have s8 : IntKind.i64.wrap ((n : Int) + (99 + (ln : Int) + (lt : Int) + (ld : Int) + (lx : Int) + (lp : Int) + (ls : Int) + (lo : Int))) = (n : Int) + (99 + (ln : Int) + (lt : Int) + (ld : Int) + (lx : Int) + (lp : Int) + (ls : Int) + (lo : Int)) := IntWalk.i64_in _ (by omega)
    go_region_held3 (fun w' => w'.cell? ⟨wr.heap.size, 4, none⟩ = some ((.slice A0 l0 n0)) ∧ w'.cell? ⟨wr.heap.size, 5, none⟩ = some ((.slice A1 l1 n1)) ∧ w'.cell? ⟨wr.heap.size, 6, none⟩ = some ((.bool st)) ∧ w'.cell? ⟨wr.heap.size, 7, none⟩ = some ((.bool sl)) ∧ w'.cell? ⟨wr.heap.size, 8, none⟩ = some ((.slice A4 l4 n4)) ∧ w'.cell? ⟨wr.heap.size, 9, none⟩ = some ((.slice A5 l5 n5)) ∧ w'.cell? ⟨wr.heap.size, 10, none⟩ = some ((.slice A6 l6 n6)) ∧ w'.cell? ⟨wr.heap.size, 11, none⟩ = some ((.int .i64 pt)) ∧ w'.cell? ⟨wr.heap.size, 12, none⟩ = some ((.slice A8 l8 n8)) ∧ w'.cell? ⟨wr.heap.size, 13, none⟩ = some ((.slice A9 l9 n9)) ∧ w'.cell? ⟨wr.heap.size, 1, none⟩ = some (.slice AN ln nN) ∧ w'.cell? ⟨wr.heap.size, 2, none⟩ = some (.slice AT lt nT) ∧ w'.cell? ⟨wr.heap.size, 3, none⟩ = some (.slice AD ld nD) ∧ w'.cell? ⟨wr.heap.size, 14, none⟩ = some (.slice AP x.ps.length nP) ∧ w'.cell? ⟨wr.heap.size, 18, none⟩ = some (.slice AS ls nS) ∧ w'.cell? ⟨wr.heap.size, 19, none⟩ = some (.slice AO lo nO))
     (first | go_keep | exact HC2.out _ hB5 | exact HC2.out _ hB6)
     (first
      | (go_simp; go_at_call 46; refine (uriText_c _ x.uri _ (HU2.out _ hB6) HX.out.uri).mono ?_; rintro e w5 ⟨r5, rfl, hr5, hb5⟩; have hB5 := Below.trans (hB6) (hb5.mono (by have := (hB6).size; first | (simp; done) | (simp; omega) | omega)); obtain ⟨A5', C5', rfl⟩ := hr5.atn lx HLX2.out)
      | (go_simp; go_at_call 46; refine (uriText_c _ x.uri _ (HU2.out _ hBa.drew) HX.out.uri).mono ?_; rintro e w5 ⟨r5, rfl, hr5, hb5⟩; have hB5 := Below.trans (hBa.drew) (hb5.mono (by have := (hBa.drew).size; first | (simp; done) | (simp; omega) | omega)); obtain ⟨A5', C5', rfl⟩ := hr5.atn lx HLX2.out)
      | (go_simp; go_at_call 47; refine (paramsText_c _ x.ps 59 _ (HP2.out _ hB5) HX.out.ps).mono ?_; rintro e w6 ⟨r6, rfl, hr6, hb6⟩; have hB6 := Below.trans (hB5) (hb6.mono (by have := (hB5).size; first | (simp; done) | (simp; omega) | omega)); obtain ⟨A6', C6', rfl⟩ := hr6.atn lp HLP2.out)
      | (go_simp; go_at_call 47; refine (paramsText_c _ x.ps 59 _ (HP2.out _ hBa.drew) HX.out.ps).mono ?_; rintro e w6 ⟨r6, rfl, hr6, hb6⟩; have hB6 := Below.trans (hBa.drew) (hb6.mono (by have := (hBa.drew).size; first | (simp; done) | (simp; omega) | omega)); obtain ⟨A6', C6', rfl⟩ := hr6.atn lp HLP2.out))
    all_goals clear s1 s2 s3 s4 s5 s6 s7 s8 f0 f1 f2 f3 f4 f5 f6 f7 f8 f9 f10 f11 f12 f13 f14 f15
    all_goals go_wp2
    all_goals go_roundw
    case rel =>
     have hB6' : Below (w.heap.size + 1) W0 w6 := by
      have hv := HV0.out
      rw [hv] at hB6
      exact (hB.alloc (by omega) _).trans (hB6.mono (by omega))
     refine ⟨k + 1, n + headSize x, by omega, by go_num, ?_, ?_, hstep.out.symm.trans hrem.out, hB6'⟩
     ·rw [HHS.out]
      (first | rfl | (congr 1; done) | (congr 1; omega))
     ·rw [HHS.out]
      omega
    case measure => simp [intOf]; omega
   ·go_wp2
    go_ret
    refine ⟨ret_int ?_, ?_⟩
    ·rw [← hrem.out, sizeOn_stop _ _ (.inr (by omega))]
    ·have := HW0.out
     rw [this] at hB
     exact (below_alloc w _).trans (hB.mono (by omega))
  ·go_wp2
   go_ret
   refine ⟨ret_int ?_, ?_⟩
   ·rw [← hrem.out, sizeOn_stop _ _ (.inl (List.drop_eq_nil_iff.2 (by have := HLQ.out; omega)))]
   ·have := HW0.out
    rw [this] at hB
    exact (below_alloc w _).trans (hB.mono (by omega))
end Go.Proofs.YtfcllhdhfenmcaaGreatDoor
