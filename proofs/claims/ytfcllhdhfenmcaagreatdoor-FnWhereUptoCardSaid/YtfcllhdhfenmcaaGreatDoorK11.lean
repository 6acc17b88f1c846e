/- Part 11 of the proof: laws and walks (merged by a program). -/
import Derived.Test.YtfcllhdhfenmcaaGreatDoorK01
import Derived.Test.YtfcllhdhfenmcaaGreatDoorK10
import Derived.Deep.RegionHeld3
import Derived.Deep.DeepCutAuto
set_option linter.all false
set_option maxHeartbeats 8000000
set_option maxRecDepth 100000
namespace Go.Proofs.YtfcllhdhfenmcaaGreatDoor
open Go.RowKit Go.Proofs.Tryz
theorem Ow.mono {b b' : Nat} {w : World} {v : Value} {l : By} (h : Ow b w v l) (hb : b' ≤ b) : Ow b' w v l := by
 obtain ⟨hl, h | ⟨g, cap, cur, rfl, hb', r⟩⟩ := h
 ·exact ⟨hl, .inl h⟩
 ·exact ⟨hl, .inr ⟨g, cap, cur, rfl, Nat.le_trans hb hb', r⟩⟩
theorem Ow.sl {base : Nat} {w : World} {v : Value} {l : By} (h : Ow base w v l) : ∃ A n c, v = .slice A n c := by
 obtain ⟨A, c, rfl⟩ := h.one
 exact ⟨A, _, c, rfl⟩
theorem Ow.own_lt {base : Nat} {w : World} {v : Value} {l : By} (h : Ow base w v l) (k : Nat) (hk : v.ownBlock = some k) : k < w.heap.size := by
 obtain ⟨_, ⟨rfl, _⟩ | ⟨g, cap, cur, rfl, hb, hh, _⟩⟩ := h
 ·simp [Value.ownBlock] at hk
 ·have : g = k := by simpa [Value.ownBlock] using hk
  subst this
  exact (Array.getElem?_eq_some_iff.1 hh).1
theorem Ow.grown {base : Nat} {w w' : World} {v : Value} {l : By} {c : Option Nat} (h : Ow base w v l) (hg : w.grownBy w' c) (hc : ∀ k, c = some k → k < base) : Ow base w' v l := by
 obtain ⟨hl, h | ⟨g, cap, cur, rfl, hb', hh, r⟩⟩ := h
 ·exact ⟨hl, .inl h⟩
 ·exact ⟨hl, .inr ⟨g, cap, cur, rfl, hb', (hg.block g (Array.getElem?_eq_some_iff.1 hh).1 (fun e => by have := hc g e.symm; omega)).trans hh, r⟩⟩
def userL (u : Ur) : By := if 0 < u.user.length then u.user ++ (if 0 < u.pass.length then 58 :: u.pass else []) ++ [64] else []
def listL (c sep : UInt8) (l : List KV) : By := if 0 < l.length then c :: ptextTo [sep] l l.length else []
def uriTextL (u : Ur) : By := u.scheme ++ [58] ++ userL u ++ hostTextL u.host u.port ++ listL 59 59 u.ps ++ listL 63 38 u.hs
theorem ptext_le (sep : UInt8) {l : List KV} (h : SmallKVs l) : (ptextTo [sep] l l.length).length ≤ 3000000000000 := by
 have h1 := ptext_len [sep] rfl h l.length (Nat.le_refl _)
 have h2 := h.len
 have : l.length * 2097154 ≤ 1048576 * 2097154 := Nat.mul_le_mul_right _ h2
 omega
theorem listL_le (c sep : UInt8) {l : List KV} (h : SmallKVs l) : (listL c sep l).length ≤ 3000000000001 := by
 have := ptext_le sep h
 unfold listL
 split
 ·simp; omega
 ·simp
theorem userL_le {u : Ur} (h : u.Small) : (userL u).length ≤ 3000000 := by
 have h1 := h.user
 have h2 := h.pass
 unfold userL
 split
 ·split
  ·simp; omega
  ·simp; omega
 ·simp
theorem uriTextL_le {u : Ur} (h : u.Small) (hp : u.port ≤ 9223372036854775807) : (uriTextL u).length ≤ 7000000000000 := by
 have h1 := h.scheme
 have h2 := userL_le h
 have h3 := hostText_len u.host u.port hp
 have h4 := h.host
 have h5 := listL_le 59 59 h.ps
 have h6 := listL_le 63 38 h.hs
 unfold uriTextL
 simp only [List.length_append, List.length_singleton]
 omega
theorem uriText_c (cs : Array Value) (u : Ur) (w : World) (h : UrR w cs u) (hsm : u.Small) :
 Calls Tryz.prog 46 #[.agg cs] w fun e w' => ∃ r, e = .returned r ∧ Ow w.heap.size w' r (uriTextL u) ∧ Below w.heap.size w w' := by
 have HSM := Lib.hid hsm; clear hsm
 obtain ⟨A0, n0, A1, n1, A4, n4, A5, n5, A6, n6, A8, n8, A9, n9, e0, e1, e4, e5, e6, e8, e9, r0, _, r4, r5, r6, r8, r9⟩ := h.shapes
 have e7 := h.port
 have p0 := h.portLo
 have p1 := h.portHi
 clear h
 obtain ⟨lu, hlu⟩ : ∃ n, n = u.user.length := ⟨_, rfl⟩
 obtain ⟨lp, hlp⟩ : ∃ n, n = u.pass.length := ⟨_, rfl⟩
 obtain ⟨lk, hlk⟩ : ∃ n, n = u.ps.length := ⟨_, rfl⟩
 obtain ⟨lh, hlh⟩ : ∃ n, n = u.hs.length := ⟨_, rfl⟩
 rw [← hlu] at e4 r4
 rw [← hlp] at e5 r5
 rw [← hlk] at e8 r8
 rw [← hlh] at e9 r9
 have HLU := Lib.hid hlu; clear hlu
 have HLP := Lib.hid hlp; clear hlp
 have HLK := Lib.hid hlk; clear hlk
 have HLH := Lib.hid hlh; clear hlh
 obtain ⟨W0, hW0⟩ : ∃ W0, W0 = w.alloc (.cells cs 25) := ⟨_, rfl⟩
 have HR : Hid (∀ wr, Below (w.heap.size + 1) W0 wr → Bs wr (.slice A0 u.scheme.length n0) u.scheme ∧ Bs wr (.slice A4 lu n4) u.user ∧ Bs wr (.slice A5 lp n5) u.pass ∧ Bs wr (.slice A6 u.host.length n6) u.host ∧ KVs wr (.slice A8 lk n8) u.ps ∧ KVs wr (.slice A9 lh n9) u.hs) := fun wr hB => by
  subst hW0
  have hb : Below w.heap.size w wr := (below_alloc w _).trans (hB.mono (by simp))
  exact ⟨r0.grow hb, r4.grow hb, r5.grow hb, r6.grow hb, r8.grow hb, r9.grow hb⟩
 have HC : Hid (∀ wr, Below (w.heap.size + 1) W0 wr → w.heap.size < wr.heap.size ∧ wr.cell? ⟨w.heap.size, 4, none⟩ = some (.slice A4 lu n4) ∧ wr.cell? ⟨w.heap.size, 5, none⟩ = some (.slice A5 lp n5) ∧ wr.cell? ⟨w.heap.size, 6, none⟩ = some (.slice A6 u.host.length n6) ∧ wr.cell? ⟨w.heap.size, 7, none⟩ = some (.int .i64 u.port) ∧ wr.cell? ⟨w.heap.size, 8, none⟩ = some (.slice A8 lk n8) ∧ wr.cell? ⟨w.heap.size, 9, none⟩ = some (.slice A9 lh n9)) := fun wr hB => by
  have hn := cells_new w cs 25 (0, 0)
  have hsz := hB.size
  have hl : w.heap.size < W0.heap.size := by rw [hW0]; simp
  have q : ∀ j v, cs[j]? = some v → wr.cell? ⟨w.heap.size, j, none⟩ = some v := fun j v hv => by
   rw [hB.cell (p := ⟨w.heap.size, j, none⟩) (by show w.heap.size < _; omega), hW0]
   simpa using hn j v hv
  exact ⟨by omega, q _ _ e4, q _ _ e5, q _ _ e6, q _ _ e7, q _ _ e8, q _ _ e9⟩
 have l6 := HSM.out.host
 have l0 := HSM.out.scheme
 have l4 := HSM.out.user
 have l5 := HSM.out.pass
 have ht := hostText_len u.host u.port p1
 have hW0s : W0.heap.size = w.heap.size + 1 := by rw [hW0]; simp
 have HW0 := Lib.hid hW0
 go_enter func46, ntmps46
 go_wp2_with fail
 refine (joined_c _ [u.scheme, [58]] _ (bsl2' _ _ _ _ _ _ _ _ (by simp) ((r0.alloc _).alloc _) (bs_lit' _ [58] _ _ 1 _ (by simp) (by simp) (by simp) _ rfl)) (by simp; omega)).mono ?_
 rintro e w1 ⟨r1, rfl, hr1, hb1⟩
 obtain ⟨q1, k1, m1, rfl⟩ := hr1.sl
 have hB1 : Below (w.heap.size + 1) W0 w1 := by
  rw [HW0.out]
  exact ((below_alloc _ _).mono (by simp)).trans (((below_alloc _ _).mono (by simp)).trans (hb1.mono (by simp)))
 have hO1 : Ow (w.heap.size + 1) w1 (.slice q1 k1 m1) (u.scheme ++ [58]) := by
  have := hr1.mono (b' := w.heap.size + 1) (by simp)
  simpa using this
 clear hr1 hb1
 obtain ⟨zz, c4, c5, c6, c7, c8, c9⟩ := HC.out w1 hB1
 go_upto_if 12 with fail
 go_cut [3] from 12 (fun out wr => Ow (w.heap.size + 1) wr out (u.scheme ++ [58] ++ userL u) ∧ Below (w.heap.size + 1) W0 wr)
 case first =>
  have hU := userL_le HSM.out
  obtain ⟨_, r4', r5', _⟩ := HR.out w1 hB1
  by_cases hu : 0 < lu
  ·go_upto_if 20 with (at_builtin; refine append_bs (w0 := W0) (o := ⟨_, .call { callee := .builtin .append, args := #[.tmp 13, .tmp 15], argTypes := _ }, _, _, _, _⟩) rfl _ _ rfl (w.heap.size + 1) _ _ (u.scheme ++ [58]) (u.user) rfl rfl hO1 r4' hB1 (by have := (hB1).size; omega) (by (try simp); omega) ?_; intro v2 W2 ho2 hB2 hs2 _; obtain ⟨zz, c4, c5, c6, c7, c8, c9⟩ := HC.out W2 hB2; obtain ⟨A2, N2, C2, rfl⟩ := ho2.sl)
   go_cut [3] from 20 (fun out wr => Ow (w.heap.size + 1) wr out (u.scheme ++ [58] ++ u.user ++ (if 0 < u.pass.length then 58 :: u.pass else [])) ∧ Below (w.heap.size + 1) W0 wr)
   case first =>
    obtain ⟨_, r4', r5', _⟩ := HR.out W2 hB2
    by_cases hp : 0 < lp
    ·go_wp2
     go_region_held3 (fun w' => w'.cell? ⟨w.heap.size, 5, none⟩ = some (.slice A5 lp n5))
      (first
       | go_keep
       | exact (HC.out _ hB3).2.2.1
       | exact (HC.out _ hB4).2.2.1)
      (first
       | (refine step_append_bs (w0 := W0) (o := ⟨_, .call { callee := .builtin .append, args := #[.tmp 21, .tmp 22], argTypes := _ }, _, _, _, _⟩) rfl _ _ rfl (w.heap.size + 1) _ _ (u.scheme ++ [58] ++ u.user) ([58]) (by rfl) (by rfl) ((ho2.alloc _).drew) ((bs_lit W2 [58] _ _ 1 (by simp) (by simp) _ rfl).drew) ((hB2.alloc (by have := hB2.size; omega) _).drew) (by have := hB2.size; (try simp); omega) (by (try simp); omega) ?_; intro v3 W3 ho3 hB3 hs3 _; obtain ⟨A3, N3, C3, rfl⟩ := ho3.sl)
       | (refine step_append_bs (w0 := W0) (o := ⟨_, .call { callee := .builtin .append, args := #[.tmp 23, .tmp 25], argTypes := _ }, _, _, _, _⟩) rfl _ _ rfl (w.heap.size + 1) _ _ (u.scheme ++ [58] ++ u.user ++ [58]) (u.pass) (by rfl) (by rfl) ho3 (HR.out _ hB3).2.2.1 hB3 (by have := (hB3).size; omega) (by (try simp); omega) ?_; intro v4 W4 ho4 hB4 hs4 _; obtain ⟨A4, N4, C4, rfl⟩ := ho4.sl))
     go_wp2
     go_meet
     refine ⟨?_, hB4⟩
     rw [if_pos (by have := HLP.out; omega)]
     simpa using ho4
    ·go_wp2
     go_meet
     refine ⟨?_, hB2⟩
     rw [if_neg (by have := HLP.out; omega), List.append_nil]
     exact ho2
   case rest =>
    obtain ⟨hO3, hB3⟩ := hcut
    obtain ⟨A3, N3, C3, rfl⟩ := hO3.sl
    obtain ⟨zz, c4, c5, c6, c7, c8, c9⟩ := HC.out _ hB3
    have hif : (if 0 < u.pass.length then 58 :: u.pass else []).length ≤ 1048577 := by split <;> simp <;> omega
    obtain ⟨X, hX⟩ : ∃ X, X = (if 0 < u.pass.length then 58 :: u.pass else []) := ⟨_, rfl⟩
    rw [← hX] at hO3 hif
    have HX := Lib.hid hX; clear hX
    go_wp2_with (at_builtin; refine append_bs (w0 := W0) (o := ⟨_, .call { callee := .builtin .append, args := #[.tmp 27, .tmp 28], argTypes := _ }, _, _, _, _⟩) rfl _ _ rfl (w.heap.size + 1) _ _ (u.scheme ++ [58] ++ u.user ++ X) ([64]) rfl rfl (hO3.alloc _) (bs_lit wc [64] _ _ 1 (by simp) (by simp) _ rfl) (hB3.alloc (by have := hB3.size; omega) _) (by have := hB3.size; (try simp); omega) (by (try simp); omega) ?_; intro v5 W5 ho5 hB5 hs5 _; obtain ⟨zz, c4, c5, c6, c7, c8, c9⟩ := HC.out W5 hB5; obtain ⟨A5, N5, C5, rfl⟩ := ho5.sl)
    go_meet
    refine ⟨?_, hB5⟩
    rw [userL, if_pos (by have := HLU.out; omega), ← HX.out]
    simpa using ho5
  ·go_wp2
   go_meet
   refine ⟨?_, hB1⟩
   rw [userL, if_neg (by have := HLU.out; omega), List.append_nil]
   exact hO1
 case rest =>
  obtain ⟨hO2, hB2⟩ := hcut
  obtain ⟨A2, N2, C2, rfl⟩ := hO2.sl
  obtain ⟨zz, c4, c5, c6, c7, c8, c9⟩ := HC.out _ hB2
  have hU := userL_le HSM.out
  go_upto_if 40 with (first
   | (go_at_call 64; refine (hostText_c _ u.host u.port _ (HR.out _ hB2).2.2.2.1 (by omega) p0 p1).mono ?_; rintro e w3 ⟨r3, rfl, hr3, hb3⟩; obtain ⟨A3, C3, rfl⟩ := hr3.shape; have hB3 := hB2.trans (hb3.mono (by have := hB2.size; omega)); obtain ⟨zz, c4, c5, c6, c7, c8, c9⟩ := HC.out _ hB3)
   | (at_builtin; refine append_bs (w0 := W0) (o := ⟨_, .call { callee := .builtin .append, args := #[.tmp 30, .tmp 35], argTypes := _ }, _, _, _, _⟩) rfl _ _ rfl (w.heap.size + 1) _ _ (u.scheme ++ [58] ++ userL u) (hostTextL u.host u.port) rfl rfl (hO2.grow hb3) hr3 hB3 (by have := hB3.size; (try simp); omega) (by (try simp); omega) ?_; intro v4 W4 ho4 hB4 hs4 _; obtain ⟨zz, c4, c5, c6, c7, c8, c9⟩ := HC.out W4 hB4; obtain ⟨A4, N4, C4, rfl⟩ := ho4.sl))
  have hOx : Ow (w.heap.size + 1) _ _ (u.scheme ++ [58] ++ userL u ++ hostTextL u.host u.port) := ho4
  have hBx := hB4
  go_cut [3] from 40 (fun out wr => Ow (w.heap.size + 1) wr out (u.scheme ++ [58] ++ userL u ++ hostTextL u.host u.port ++ listL 59 59 u.ps) ∧ Below (w.heap.size + 1) W0 wr)
  case first =>
   have hpt := ptext_le 59 HSM.out.ps
   by_cases hk : 0 < lk
   ·go_wp2
    go_region_held3 (fun w' => w'.cell? ⟨w.heap.size, 8, none⟩ = some (.slice A8 lk n8))
     (first
      | go_keep
      | exact (HC.out _ hB7).2.2.2.2.2.1
      | exact (HC.out _ hB5).2.2.2.2.2.1
      | exact (HC.out _ hB6).2.2.2.2.2.1
      | exact (HC.out _ (hB6.alloc (by have := hB6.size; omega) _)).2.2.2.2.2.1)
     (first
      | (refine step_append_bs (w0 := W0) (o := ⟨_, .call { callee := .builtin .append, args := #[.tmp 41, .tmp 42], argTypes := _ }, _, _, _, _⟩) rfl _ _ rfl (w.heap.size + 1) _ _ (u.scheme ++ [58] ++ userL u ++ hostTextL u.host u.port) ([59]) (by rfl) (by rfl) ((hOx.alloc _).drew) ((bs_lit _ [59] _ _ 1 (by simp) (by simp) _ rfl).drew) ((hBx.alloc (by have := hBx.size; omega) _).drew) (by have := hBx.size; (try simp); omega) (by (try simp); omega) ?_; intro v5 W5 ho5 hB5 hs5 hg5; obtain ⟨A5, N5, C5, rfl⟩ := ho5.sl)
      | (refine step_append_bs (w0 := W0) (o := ⟨_, .call { callee := .builtin .append, args := #[.tmp 41, .tmp 42], argTypes := _ }, _, _, _, _⟩) rfl _ _ rfl (w.heap.size + 1) _ _ (u.scheme ++ [58] ++ userL u ++ hostTextL u.host u.port) ([59]) (by rfl) (by rfl) ((hOx.alloc _).drew.grow hb6) (((bs_lit _ [59] _ _ 1 (by simp) (by simp) _ rfl).drew).grow hb6) hB6 (by have := hB6.size; (try simp); omega) (by (try simp); omega) ?_; intro v5 W5 ho5 hB5 hs5 hg5; obtain ⟨A5, N5, C5, rfl⟩ := ho5.sl)
      | (refine step_append_bs (w0 := W0) (o := ⟨_, .call { callee := .builtin .append, args := #[.tmp 41, .tmp 42], argTypes := _ }, _, _, _, _⟩) rfl _ _ rfl (w.heap.size + 1) _ _ (u.scheme ++ [58] ++ userL u ++ hostTextL u.host u.port) ([59]) (by rfl) (by rfl) ((hOx.drew.grow hb6).alloc _) (bs_lit _ [59] _ _ 1 (by simp) (by simp) _ rfl) (hB6.alloc (by have := hB6.size; omega) _) (by have := hB6.size; (try simp); omega) (by (try simp); omega) ?_; intro v5 W5 ho5 hB5 hs5 hg5; obtain ⟨A5, N5, C5, rfl⟩ := ho5.sl)
      | (refine step_append_bs (w0 := W0) (o := ⟨_, .call { callee := .builtin .append, args := #[.tmp 43, .tmp 46], argTypes := _ }, _, _, _, _⟩) rfl _ _ rfl (w.heap.size + 1) _ _ (u.scheme ++ [58] ++ userL u ++ hostTextL u.host u.port ++ [59]) (ptextTo [59] u.ps u.ps.length) (by rfl) (by rfl) (ho5.grow hb6) hr6.bs hB6 (by have := hB6.size; (try simp); omega) (by (try simp); omega) ?_; intro v7 W7 ho7 hB7 hs7 hg7; obtain ⟨A7, N7, C7, rfl⟩ := ho7.sl)
      | (refine step_append_bs (w0 := W0) (o := ⟨_, .call { callee := .builtin .append, args := #[.tmp 43, .tmp 46], argTypes := _ }, _, _, _, _⟩) rfl _ _ rfl (w.heap.size + 1) _ _ (u.scheme ++ [58] ++ userL u ++ hostTextL u.host u.port ++ [59]) (ptextTo [59] u.ps u.ps.length) (by rfl) (by rfl) ho5 (hr6.grown hg5 (fun k hk => by have := hOx.own_lt k hk; (try simp); omega)).bs hB5 (by have := hB5.size; (try simp); omega) (by (try simp); omega) ?_; intro v7 W7 ho7 hB7 hs7 hg7; obtain ⟨A7, N7, C7, rfl⟩ := ho7.sl)
      | (refine step_append_bs (w0 := W0) (o := ⟨_, .call { callee := .builtin .append, args := #[.tmp 43, .tmp 46], argTypes := _ }, _, _, _, _⟩) rfl _ _ rfl (w.heap.size + 1) _ _ (u.scheme ++ [58] ++ userL u ++ hostTextL u.host u.port ++ [59]) (ptextTo [59] u.ps u.ps.length) (by rfl) (by rfl) ho5 ((hr6.alloc _).grown hg5 (fun k hk => by have := hOx.own_lt k hk; (try simp); omega)).bs hB5 (by have := hB5.size; (try simp); omega) (by (try simp); omega) ?_; intro v7 W7 ho7 hB7 hs7 hg7; obtain ⟨A7, N7, C7, rfl⟩ := ho7.sl)
      | (go_simp; go_at_call 47; refine (paramsText_c _ u.ps 59 _ (HR.out _ hB5).2.2.2.2.1 HSM.out.ps).mono ?_; rintro e w6 ⟨r6, rfl, hr6, hb6⟩; have hB6 := Below.trans hB5 (hb6.mono (by have := (hB5).size; (try simp); omega)); obtain ⟨A6', N6', C6', rfl⟩ := hr6.sl)
      | (go_simp; go_at_call 47; refine (paramsText_c _ u.ps 59 _ (HR.out _ ((hBx.alloc (by have := hBx.size; omega) _).drew)).2.2.2.2.1 HSM.out.ps).mono ?_; rintro e w6 ⟨r6, rfl, hr6, hb6⟩; have hB6 := Below.trans ((hBx.alloc (by have := hBx.size; omega) _).drew) (hb6.mono (by have := (hBx).size; (try simp); omega)); obtain ⟨A6', N6', C6', rfl⟩ := hr6.sl)
      | (go_simp; go_at_call 47; refine (paramsText_c _ u.ps 59 _ (HR.out _ hBx.drew).2.2.2.2.1 HSM.out.ps).mono ?_; rintro e w6 ⟨r6, rfl, hr6, hb6⟩; have hB6 := Below.trans hBx.drew (hb6.mono (by have := (hBx).size; (try simp); omega)); obtain ⟨A6', N6', C6', rfl⟩ := hr6.sl))
    all_goals go_wp2
    all_goals go_meet
    all_goals refine ⟨?_, hB7⟩
    all_goals (rw [listL, if_pos (by have := HLK.out; omega)]; simpa using ho7)
   ·go_wp2
    go_meet
    refine ⟨?_, hBx⟩
    rw [listL, if_neg (by have := HLK.out; omega), List.append_nil]
    exact hOx
  case rest =>
   clear hOx hBx
   obtain ⟨hOx, hBx⟩ := hcut
   obtain ⟨A8', N8', C8', rfl⟩ := hOx.sl
   obtain ⟨zz, c4, c5, c6, c7, c8, c9⟩ := HC.out _ hBx
   have hL5 := listL_le 59 59 HSM.out.ps
   go_upto_if 51 with fail
   go_cut [3] from 51 (fun out wr => Ow (w.heap.size + 1) wr out (u.scheme ++ [58] ++ userL u ++ hostTextL u.host u.port ++ listL 59 59 u.ps ++ listL 63 38 u.hs) ∧ Below (w.heap.size + 1) W0 wr)
   case first =>
    have hpt := ptext_le 38 HSM.out.hs
    by_cases hk : 0 < lh
    ·go_wp2
     go_region_held3 (fun w' => w'.cell? ⟨w.heap.size, 9, none⟩ = some (.slice A9 lh n9))
      (first
       | go_keep
       | exact (HC.out _ hB7).2.2.2.2.2.2
       | exact (HC.out _ hB5).2.2.2.2.2.2
       | exact (HC.out _ hB6).2.2.2.2.2.2
       | exact (HC.out _ (hB6.alloc (by have := hB6.size; omega) _)).2.2.2.2.2.2)
      (first
       | (refine step_append_bs (w0 := W0) (o := ⟨_, .call { callee := .builtin .append, args := #[.tmp 52, .tmp 53], argTypes := _ }, _, _, _, _⟩) rfl _ _ rfl (w.heap.size + 1) _ _ (u.scheme ++ [58] ++ userL u ++ hostTextL u.host u.port ++ listL 59 59 u.ps) ([63]) (by rfl) (by rfl) ((hOx.alloc _).drew) ((bs_lit _ [63] _ _ 1 (by simp) (by simp) _ rfl).drew) ((hBx.alloc (by have := hBx.size; omega) _).drew) (by have := hBx.size; (try simp); omega) (by (try simp); omega) ?_; intro v5 W5 ho5 hB5 hs5 hg5; obtain ⟨A5, N5, C5, rfl⟩ := ho5.sl)
       | (refine step_append_bs (w0 := W0) (o := ⟨_, .call { callee := .builtin .append, args := #[.tmp 52, .tmp 53], argTypes := _ }, _, _, _, _⟩) rfl _ _ rfl (w.heap.size + 1) _ _ (u.scheme ++ [58] ++ userL u ++ hostTextL u.host u.port ++ listL 59 59 u.ps) ([63]) (by rfl) (by rfl) ((hOx.alloc _).drew.grow hb6) (((bs_lit _ [63] _ _ 1 (by simp) (by simp) _ rfl).drew).grow hb6) hB6 (by have := hB6.size; (try simp); omega) (by (try simp); omega) ?_; intro v5 W5 ho5 hB5 hs5 hg5; obtain ⟨A5, N5, C5, rfl⟩ := ho5.sl)
       | (refine step_append_bs (w0 := W0) (o := ⟨_, .call { callee := .builtin .append, args := #[.tmp 52, .tmp 53], argTypes := _ }, _, _, _, _⟩) rfl _ _ rfl (w.heap.size + 1) _ _ (u.scheme ++ [58] ++ userL u ++ hostTextL u.host u.port ++ listL 59 59 u.ps) ([63]) (by rfl) (by rfl) ((hOx.drew.grow hb6).alloc _) (bs_lit _ [63] _ _ 1 (by simp) (by simp) _ rfl) (hB6.alloc (by have := hB6.size; omega) _) (by have := hB6.size; (try simp); omega) (by (try simp); omega) ?_; intro v5 W5 ho5 hB5 hs5 hg5; obtain ⟨A5, N5, C5, rfl⟩ := ho5.sl)
       | (refine step_append_bs (w0 := W0) (o := ⟨_, .call { callee := .builtin .append, args := #[.tmp 54, .tmp 57], argTypes := _ }, _, _, _, _⟩) rfl _ _ rfl (w.heap.size + 1) _ _ (u.scheme ++ [58] ++ userL u ++ hostTextL u.host u.port ++ listL 59 59 u.ps ++ [63]) (ptextTo [38] u.hs u.hs.length) (by rfl) (by rfl) (ho5.grow hb6) hr6.bs hB6 (by have := hB6.size; (try simp); omega) (by (try simp); omega) ?_; intro v7 W7 ho7 hB7 hs7 hg7; obtain ⟨A7, N7, C7, rfl⟩ := ho7.sl)
       | (refine step_append_bs (w0 := W0) (o := ⟨_, .call { callee := .builtin .append, args := #[.tmp 54, .tmp 57], argTypes := _ }, _, _, _, _⟩) rfl _ _ rfl (w.heap.size + 1) _ _ (u.scheme ++ [58] ++ userL u ++ hostTextL u.host u.port ++ listL 59 59 u.ps ++ [63]) (ptextTo [38] u.hs u.hs.length) (by rfl) (by rfl) ho5 (hr6.grown hg5 (fun k hk => by have := hOx.own_lt k hk; (try simp); omega)).bs hB5 (by have := hB5.size; (try simp); omega) (by (try simp); omega) ?_; intro v7 W7 ho7 hB7 hs7 hg7; obtain ⟨A7, N7, C7, rfl⟩ := ho7.sl)
       | (refine step_append_bs (w0 := W0) (o := ⟨_, .call { callee := .builtin .append, args := #[.tmp 54, .tmp 57], argTypes := _ }, _, _, _, _⟩) rfl _ _ rfl (w.heap.size + 1) _ _ (u.scheme ++ [58] ++ userL u ++ hostTextL u.host u.port ++ listL 59 59 u.ps ++ [63]) (ptextTo [38] u.hs u.hs.length) (by rfl) (by rfl) ho5 ((hr6.alloc _).grown hg5 (fun k hk => by have := hOx.own_lt k hk; (try simp); omega)).bs hB5 (by have := hB5.size; (try simp); omega) (by (try simp); omega) ?_; intro v7 W7 ho7 hB7 hs7 hg7; obtain ⟨A7, N7, C7, rfl⟩ := ho7.sl)
       | (go_simp; go_at_call 47; refine (paramsText_c _ u.hs 38 _ (HR.out _ hB5).2.2.2.2.2 HSM.out.hs).mono ?_; rintro e w6 ⟨r6, rfl, hr6, hb6⟩; have hB6 := Below.trans hB5 (hb6.mono (by have := (hB5).size; (try simp); omega)); obtain ⟨A6', N6', C6', rfl⟩ := hr6.sl)
       | (go_simp; go_at_call 47; refine (paramsText_c _ u.hs 38 _ (HR.out _ ((hBx.alloc (by have := hBx.size; omega) _).drew)).2.2.2.2.2 HSM.out.hs).mono ?_; rintro e w6 ⟨r6, rfl, hr6, hb6⟩; have hB6 := Below.trans ((hBx.alloc (by have := hBx.size; omega) _).drew) (hb6.mono (by have := (hBx).size; (try simp); omega)); obtain ⟨A6', N6', C6', rfl⟩ := hr6.sl)
       | (go_simp; go_at_call 47; refine (paramsText_c _ u.hs 38 _ (HR.out _ hBx.drew).2.2.2.2.2 HSM.out.hs).mono ?_; rintro e w6 ⟨r6, rfl, hr6, hb6⟩; have hB6 := Below.trans hBx.drew (hb6.mono (by have := (hBx).size; (try simp); omega)); obtain ⟨A6', N6', C6', rfl⟩ := hr6.sl))
     all_goals go_wp2
     all_goals go_meet
     all_goals refine ⟨?_, hB7⟩
     all_goals (rw [show listL 63 38 u.hs = _ from if_pos (by have := HLH.out; omega)]; simpa using ho7)
    ·go_wp2
     go_meet
     refine ⟨?_, hBx⟩
     rw [show listL 63 38 u.hs = _ from if_neg (by have := HLH.out; omega), List.append_nil]
     exact hOx
   case rest =>
    clear hOx hBx
    obtain ⟨hOx, hBx⟩ := hcut
    obtain ⟨A9', N9', C9', rfl⟩ := hOx.sl
    go_wp2
    go_ret
    refine ⟨_, rfl, ?_, ?_⟩
    ·rw [uriTextL]
     exact hOx.mono (by omega)
    ·rw [HW0.out] at hBx
     exact (below_alloc w _).trans (hBx.mono (by omega))
end Go.Proofs.YtfcllhdhfenmcaaGreatDoor
