/- Part 30 of the proof: laws and walks (merged by a program). -/
import Derived.Test.YtfcllhdhfenmcaaGreatDoorK01
import Derived.Test.YtfcllhdhfenmcaaGreatDoorK13
import Derived.Test.YtfcllhdhfenmcaaGreatDoorK23
set_option linter.all false
set_option maxHeartbeats 8000000
set_option maxRecDepth 100000
namespace Go.Proofs.YtfcllhdhfenmcaaGreatDoor
open Go.RowKit Go.Proofs.Tryz
def PlainOut (p : Nat → Prop) (w : World) (x : Hd) (e : Ending) (w' : World) : Prop := ∃ ds, e = .returned (.agg ds) ∧ (∀ w2, Ax p w' w2 → HdR w2 ds (plainH x)) ∧ Below w.heap.size w w'
structure PlS (p : Nat → Prop) (x : Hd) (w : World) (C : Array Value) (b1 b2 g : Nat) (An : Option Addr) (ln cn : Nat) (wx : World) : Prop where
 k1 : Blk wx b1 C 34
 k2 : Blk wx b2 #[.int .i64 0, .slice none 0 0, .slice none 0 0, .slice none 0 0, .slice none 0 0, .slice none 0 0, .bool false, .bool false, .slice none 0 0, .slice none 0 0, .slice none 0 0, .int .i64 0, .slice none 0 0, .slice none 0 0, .slice none 0 0, .int .u32 0, .slice none 0 0, .slice none 0 0, .slice none 0 0, .slice none 0 0, .int .i64 0] 34
 kg : Blk wx g #[.int .i64 x.t, .slice An ln cn, .slice none 0 0, .slice none 0 0, .slice none 0 0, .slice none 0 0, .bool false, .bool false, .slice none 0 0, .slice none 0 0, .slice none 0 0, .int .i64 0, .slice none 0 0, .slice none 0 0, .slice none 0 0, .int .u32 0, .slice none 0 0, .slice none 0 0, .slice none 0 0, .slice none 0 0, .int .i64 0] 34
 nm : BsX (fun k => p k ∨ k = b2 ∨ k = g) wx (.slice An ln cn) (nameL x.t)
 lo : w.heap.size ≤ b1
 l2 : b1 < b2
 l3 : b2 < g
 bel : Below w.heap.size w wx
theorem mk_le (l : By) (h : l.length ≤ 1000) : (mk l).size ≤ 4611686018427387904 := by
 show (⟨l.toArray⟩ : ByteArray).data.size ≤ _
 simp
 omega
theorem ite_le {c : Prop} [Decidable c] {a b : By} (ha : a.length ≤ 1000) (hb : b.length ≤ 1000) : (if c then a else b).length ≤ 1000 := by split <;> assumption
theorem mk_name_size (t : Int) : (mk (nameL t)).size ≤ 4611686018427387904 := by
 refine mk_le _ ?_
 unfold nameL
 repeat (refine ite_le (by decide) ?_)
 decide
theorem plain_lit (p : Nat → Prop) (x : Hd) (w : World) (A1 : Option Addr) (c1 : Nat) (A2 : Option Addr) (c2 : Nat) (A3 : Option Addr) (c3 : Nat) (A4 : Option Addr) (c4 : Nat) (A5 : Option Addr) (c5 : Nat) (A8 : Option Addr) (c8 : Nat) (A9 : Option Addr) (c9 : Nat) (A10 : Option Addr) (c10 : Nat) (A12 : Option Addr) (c12 : Nat) (A13 : Option Addr) (c13 : Nat) (A14 : Option Addr) (c14 : Nat) (A16 : Option Addr) (c16 : Nat) (A17 : Option Addr) (c17 : Nat) (A18 : Option Addr) (c18 : Nat) (A19 : Option Addr) (c19 : Nat) (hp : ∀ k, p k → k < w.heap.size) (h : ∀ w2, Ax p w w2 → HdR w2 #[.int .i64 x.t, .slice A1 x.name.length c1, .slice A2 x.text.length c2, .slice A3 x.disp.length c3, .slice A4 x.uri.scheme.length c4, .slice A5 x.uri.raw.length c5, .bool x.uri.star, .bool x.uri.slashes, .slice A8 x.uri.user.length c8, .slice A9 x.uri.pass.length c9, .slice A10 x.uri.host.length c10, .int .i64 x.uri.port, .slice A12 x.uri.ps.length c12, .slice A13 x.uri.hs.length c13, .slice A14 x.ps.length c14, .int .u32 x.num, .slice A16 x.proto.length c16, .slice A17 x.ver.length c17, .slice A18 x.tr.length c18, .slice A19 x.host.length c19, .int .i64 x.port] x) :
 Calls Tryz.prog 27 #[.agg #[.int .i64 x.t, .slice A1 x.name.length c1, .slice A2 x.text.length c2, .slice A3 x.disp.length c3, .slice A4 x.uri.scheme.length c4, .slice A5 x.uri.raw.length c5, .bool x.uri.star, .bool x.uri.slashes, .slice A8 x.uri.user.length c8, .slice A9 x.uri.pass.length c9, .slice A10 x.uri.host.length c10, .int .i64 x.uri.port, .slice A12 x.uri.ps.length c12, .slice A13 x.uri.hs.length c13, .slice A14 x.ps.length c14, .int .u32 x.num, .slice A16 x.proto.length c16, .slice A17 x.ver.length c17, .slice A18 x.tr.length c18, .slice A19 x.host.length c19, .int .i64 x.port]] w (PlainOut p w x) := by
 have HH := Lib.hid h
 have HPP := Lib.hid hp
 have zn : (mk (nameL x.t)).size ≤ 4611686018427387904 := mk_name_size x.t
 obtain ⟨ln, hln⟩ : ∃ n, n = (nameL x.t).length := ⟨_, rfl⟩
 have HLN := Lib.hid hln
 have hs0 := Below.refl w.heap.size w
 clear h hln hp
 go_enter func27, ntmps27
 go_upto_region 0 with fail
 apply wR
 refine cN #[.int .i64 x.t, .slice A1 x.name.length c1, .slice A2 x.text.length c2, .slice A3 x.disp.length c3, .slice A4 x.uri.scheme.length c4, .slice A5 x.uri.raw.length c5, .bool x.uri.star, .bool x.uri.slashes, .slice A8 x.uri.user.length c8, .slice A9 x.uri.pass.length c9, .slice A10 x.uri.host.length c10, .int .i64 x.uri.port, .slice A12 x.uri.ps.length c12, .slice A13 x.uri.hs.length c13, .slice A14 x.ps.length c14, .int .u32 x.num, .slice A16 x.proto.length c16, .slice A17 x.ver.length c17, .slice A18 x.tr.length c18, .slice A19 x.host.length c19, .int .i64 x.port] 34 ?_
 intro b1 w1 b1_ge b1_lt k1 hb1
 obtain ⟨hS1, hz1, hy1⟩ := zC hs0 hb1
 refine wP ?_
 refine cN #[.int .i64 0, .slice none 0 0, .slice none 0 0, .slice none 0 0, .slice none 0 0, .slice none 0 0, .bool false, .bool false, .slice none 0 0, .slice none 0 0, .slice none 0 0, .int .i64 0, .slice none 0 0, .slice none 0 0, .slice none 0 0, .int .u32 0, .slice none 0 0, .slice none 0 0, .slice none 0 0, .slice none 0 0, .int .i64 0] 34 ?_
 intro b2 w2 b2_ge b2_lt k2 hb2
 obtain ⟨hS2, hz2, hy2⟩ := zC hS1 hb2
 replace k1 := k1.grow hb2
 refine wP ?_
 refine wN ?_
 go_step
 go_step
 go_step
 go_cut [3] from 4 (fun v3 wx => ∃ g An cn, v3 = .pointer (some ⟨g, 0, none⟩) ∧ PlS p x w #[.int .i64 x.t, .slice A1 x.name.length c1, .slice A2 x.text.length c2, .slice A3 x.disp.length c3, .slice A4 x.uri.scheme.length c4, .slice A5 x.uri.raw.length c5, .bool x.uri.star, .bool x.uri.slashes, .slice A8 x.uri.user.length c8, .slice A9 x.uri.pass.length c9, .slice A10 x.uri.host.length c10, .int .i64 x.uri.port, .slice A12 x.uri.ps.length c12, .slice A13 x.uri.hs.length c13, .slice A14 x.ps.length c14, .int .u32 x.num, .slice A16 x.proto.length c16, .slice A17 x.ver.length c17, .slice A18 x.tr.length c18, .slice A19 x.host.length c19, .int .i64 x.port] b1 b2 g An ln cn wx)
 case first =>
  have K1 := Lib.hid k1
  have K2 := Lib.hid k2
  have hs2 := Below.refl w2.heap.size w2
  clear k1 k2
  go_upto_region 1 with fail
  refine wp_region_noPanic ?_
  have hSd1 := hs2.drew
  have hzd1 := hSd1.size
  have hze1 : (w2).drew.heap.size = (w2).heap.size := rfl
  refine wp_region_held_drew (S := fun w' => Below (w2.heap.size) w2 w') (by kernel_rfl) hSd1 (fun _ => ?_)
  refine tk 0 (.pointer (some ⟨b1, 0, none⟩)) rfl yR hSd1 ?_
  refine tk 1 (.int .i64 x.t) rfl (yL underlying3 (fun w' h => (K1.out.grow h).cell 0 _ rfl)) hSd1 ?_
  refine tk 2 (.pointer (some ⟨b1, 0, none⟩)) rfl yR hSd1 ?_
  refine tk 3 (.int .i64 x.t) rfl (yL underlying3 (fun w' h => (K1.out.grow h).cell 0 _ rfl)) hSd1 ?_
  refine wpAnyH_ready (rs := [4, 7]) (by kernel_rfl) (by decide) (AllReadyH.cons (o := ⟨some 8, Op.call { callee := Callee.value (Operand.func 54), args := #[Operand.tmp 7], argTypes := #[3] }, 9, _, _, none⟩) rfl (fun K hK => ?_) (AllReadyH.cons (o := ⟨some 3, Op.alloc 34, 0, _, _, none⟩) rfl (fun K hK => ?_) (AllReadyH.nil)))
  refine sC func54 #[.int .i64 x.t] (nameOf_c x.t _) ?_
  rintro e _ ⟨rfl, rfl⟩
  refine ⟨_, rfl, ?_⟩
  refine sh hK hSd1 ?_
  clear hK K
  refine wpAnyH_ready (rs := [5, 7]) (by kernel_rfl) (by decide) (AllReadyH.cons (o := ⟨some 9, Op.convert 9 22 (Operand.tmp 8), 22, _, _, none⟩) rfl (fun K hK => ?_) (AllReadyH.cons (o := ⟨some 3, Op.alloc 34, 0, _, _, none⟩) rfl (fun K hK => ?_) (AllReadyH.nil)))
  refine st_conv_off 9 22 5 rfl (s := mk (nameL x.t)) (by kernel_rfl) zn underlying9 underlying22 underlying5 (w2.drew.heap.size) (Nat.le_refl _) ?_
  intro v9 w3 q9 hb3
  obtain ⟨An, cn, e9⟩ := (q9 _ (Agr.refl _ _)).sl HLN.out
  subst e9
  obtain ⟨hS3, hz3, hy3⟩ := zC hSd1 hb3
  refine sh hK hS3 ?_
  clear hK K
  refine tk 6 (.agg #[.int .i64 x.t, .slice An ln cn, .slice none 0 0, .slice none 0 0, .slice none 0 0, .slice none 0 0, .bool false, .bool false, .slice none 0 0, .slice none 0 0, .slice none 0 0, .int .i64 0, .slice none 0 0, .slice none 0 0, .slice none 0 0, .int .u32 0, .slice none 0 0, .slice none 0 0, .slice none 0 0, .slice none 0 0, .int .i64 0]) rfl yR hS3 ?_
  refine rd 7 rfl (fun K hK => ?_)
  refine sN #[.int .i64 0, .slice none 0 0, .slice none 0 0, .slice none 0 0, .slice none 0 0, .slice none 0 0, .bool false, .bool false, .slice none 0 0, .slice none 0 0, .slice none 0 0, .int .i64 0, .slice none 0 0, .slice none 0 0, .slice none 0 0, .int .u32 0, .slice none 0 0, .slice none 0 0, .slice none 0 0, .slice none 0 0, .int .i64 0] 34 ?_
  intro g w4 g_ge g_lt kg hb4
  obtain ⟨hS4, hz4, hy4⟩ := zC hS3 hb4
  refine sh hK hS4 ?_
  clear hK K
  refine rd 8 rfl (fun K hK => ?_)
  refine sA 34 g 0 [.int .i64 x.t, .slice An ln cn, .slice none 0 0, .slice none 0 0, .slice none 0 0, .slice none 0 0, .bool false, .bool false, .slice none 0 0, .slice none 0 0, .slice none 0 0, .int .i64 0, .slice none 0 0, .slice none 0 0, .slice none 0 0, .int .u32 0, .slice none 0 0, .slice none 0 0, .slice none 0 0, .slice none 0 0, .int .i64 0] #[.int .i64 x.t, .slice An ln cn, .slice none 0 0, .slice none 0 0, .slice none 0 0, .slice none 0 0, .bool false, .bool false, .slice none 0 0, .slice none 0 0, .slice none 0 0, .int .i64 0, .slice none 0 0, .slice none 0 0, .slice none 0 0, .int .u32 0, .slice none 0 0, .slice none 0 0, .slice none 0 0, .slice none 0 0, .int .i64 0] 34 kg ?_
  intro w5 kg' hO5
  have hS5 := hS4.trans (hO5.below (by omega))
  have hz5 := hS5.size
  clear kg
  have kg := kg'
  clear kg'
  have hzz5 := hO5.size
  replace hO5 := Lib.hid hO5
  refine sh hK hS5 ?_
  clear hK K
  refine wpAnyH_done (by kernel_rfl) ?_ _
  refine NoPanic.normal ?_
  rotate_left
  refine sN #[.int .i64 0, .slice none 0 0, .slice none 0 0, .slice none 0 0, .slice none 0 0, .slice none 0 0, .bool false, .bool false, .slice none 0 0, .slice none 0 0, .slice none 0 0, .int .i64 0, .slice none 0 0, .slice none 0 0, .slice none 0 0, .int .u32 0, .slice none 0 0, .slice none 0 0, .slice none 0 0, .slice none 0 0, .int .i64 0] 34 ?_
  intro g w3 g_ge g_lt kg hb3
  obtain ⟨hS3, hz3, hy3⟩ := zC hSd1 hb3
  refine sh hK hS3 ?_
  clear hK K
  refine rd 5 rfl (fun K hK => ?_)
  refine st_conv_off 9 22 5 rfl (s := mk (nameL x.t)) (by kernel_rfl) zn underlying9 underlying22 underlying5 (w3.heap.size) (Nat.le_refl _) ?_
  intro v9 w4 q9 hb4
  obtain ⟨An, cn, e9⟩ := (q9 _ (Agr.refl _ _)).sl HLN.out
  subst e9
  obtain ⟨hS4, hz4, hy4⟩ := zC hS3 hb4
  replace kg := kg.grow hb4
  refine sh hK hS4 ?_
  clear hK K
  refine tk 6 (.agg #[.int .i64 x.t, .slice An ln cn, .slice none 0 0, .slice none 0 0, .slice none 0 0, .slice none 0 0, .bool false, .bool false, .slice none 0 0, .slice none 0 0, .slice none 0 0, .int .i64 0, .slice none 0 0, .slice none 0 0, .slice none 0 0, .int .u32 0, .slice none 0 0, .slice none 0 0, .slice none 0 0, .slice none 0 0, .int .i64 0]) rfl yR hS4 ?_
  refine rd 8 rfl (fun K hK => ?_)
  refine sA 34 g 0 [.int .i64 x.t, .slice An ln cn, .slice none 0 0, .slice none 0 0, .slice none 0 0, .slice none 0 0, .bool false, .bool false, .slice none 0 0, .slice none 0 0, .slice none 0 0, .int .i64 0, .slice none 0 0, .slice none 0 0, .slice none 0 0, .int .u32 0, .slice none 0 0, .slice none 0 0, .slice none 0 0, .slice none 0 0, .int .i64 0] #[.int .i64 x.t, .slice An ln cn, .slice none 0 0, .slice none 0 0, .slice none 0 0, .slice none 0 0, .bool false, .bool false, .slice none 0 0, .slice none 0 0, .slice none 0 0, .int .i64 0, .slice none 0 0, .slice none 0 0, .slice none 0 0, .int .u32 0, .slice none 0 0, .slice none 0 0, .slice none 0 0, .slice none 0 0, .int .i64 0] 34 kg ?_
  intro w5 kg' hO5
  have hS5 := hS4.trans (hO5.below (by omega))
  have hz5 := hS5.size
  clear kg
  have kg := kg'
  clear kg'
  have hzz5 := hO5.size
  replace hO5 := Lib.hid hO5
  refine sh hK hS5 ?_
  clear hK K
  refine wpAnyH_done (by kernel_rfl) ?_ _
  refine NoPanic.normal ?_
  rotate_left
  refine sN #[.int .i64 0, .slice none 0 0, .slice none 0 0, .slice none 0 0, .slice none 0 0, .slice none 0 0, .bool false, .bool false, .slice none 0 0, .slice none 0 0, .slice none 0 0, .int .i64 0, .slice none 0 0, .slice none 0 0, .slice none 0 0, .int .u32 0, .slice none 0 0, .slice none 0 0, .slice none 0 0, .slice none 0 0, .int .i64 0] 34 ?_
  intro g w3 g_ge g_lt kg hb3
  obtain ⟨hS3, hz3, hy3⟩ := zC hSd1 hb3
  refine sh hK hS3 ?_
  clear hK K
  refine rd 4 rfl (fun K hK => ?_)
  refine sC func54 #[.int .i64 x.t] (nameOf_c x.t _) ?_
  rintro e _ ⟨rfl, rfl⟩
  refine ⟨_, rfl, ?_⟩
  refine sh hK hS3 ?_
  clear hK K
  refine rd 5 rfl (fun K hK => ?_)
  refine st_conv_off 9 22 5 rfl (s := mk (nameL x.t)) (by kernel_rfl) zn underlying9 underlying22 underlying5 (w3.heap.size) (Nat.le_refl _) ?_
  intro v9 w4 q9 hb4
  obtain ⟨An, cn, e9⟩ := (q9 _ (Agr.refl _ _)).sl HLN.out
  subst e9
  obtain ⟨hS4, hz4, hy4⟩ := zC hS3 hb4
  replace kg := kg.grow hb4
  refine sh hK hS4 ?_
  clear hK K
  refine tk 6 (.agg #[.int .i64 x.t, .slice An ln cn, .slice none 0 0, .slice none 0 0, .slice none 0 0, .slice none 0 0, .bool false, .bool false, .slice none 0 0, .slice none 0 0, .slice none 0 0, .int .i64 0, .slice none 0 0, .slice none 0 0, .slice none 0 0, .int .u32 0, .slice none 0 0, .slice none 0 0, .slice none 0 0, .slice none 0 0, .int .i64 0]) rfl yR hS4 ?_
  refine rd 8 rfl (fun K hK => ?_)
  refine sA 34 g 0 [.int .i64 x.t, .slice An ln cn, .slice none 0 0, .slice none 0 0, .slice none 0 0, .slice none 0 0, .bool false, .bool false, .slice none 0 0, .slice none 0 0, .slice none 0 0, .int .i64 0, .slice none 0 0, .slice none 0 0, .slice none 0 0, .int .u32 0, .slice none 0 0, .slice none 0 0, .slice none 0 0, .slice none 0 0, .int .i64 0] #[.int .i64 x.t, .slice An ln cn, .slice none 0 0, .slice none 0 0, .slice none 0 0, .slice none 0 0, .bool false, .bool false, .slice none 0 0, .slice none 0 0, .slice none 0 0, .int .i64 0, .slice none 0 0, .slice none 0 0, .slice none 0 0, .int .u32 0, .slice none 0 0, .slice none 0 0, .slice none 0 0, .slice none 0 0, .int .i64 0] 34 kg ?_
  intro w5 kg' hO5
  have hS5 := hS4.trans (hO5.below (by omega))
  have hz5 := hS5.size
  clear kg
  have kg := kg'
  clear kg'
  have hzz5 := hO5.size
  replace hO5 := Lib.hid hO5
  refine sh hK hS5 ?_
  clear hK K
  refine wpAnyH_done (by kernel_rfl) ?_ _
  refine NoPanic.normal ?_
  all_goals go_wp2_with fail
  all_goals go_meet
  all_goals
   refine ⟨g, An, cn, rfl, ⟨K1.out.grow hS5, K2.out.grow hS5, kg, ?_, by omega, by omega, by omega, hS2.trans (hS5.mono (by omega))⟩⟩
   have hO := hO5.out
   intro z hz
   have hz4 := Ax.oth hO (.inr (.inr rfl)) hz
   first
    | exact q9 z (hz4.agr fun k hk hl hq => by rcases hq with hq | hq | hq <;> first | (have := HPP.out k hq; omega) | omega)
    | exact q9 z ((Ax.of hb4 hz4).agr fun k hk hl hq => by rcases hq with hq | hq | hq <;> first | (have := HPP.out k hq; omega) | omega)
 case rest =>
  obtain ⟨g, An, cn, rfl, ⟨k1, k2, kg, hnm, l1, l2, l3, hb⟩⟩ := hcut
  have HNM := Lib.hid hnm
  clear hnm hs0 hS1 hS2 hb1 hb2
  have zz1 := k1.lt
  have zz2 := k2.lt
  have zz3 := kg.lt
  have hsc := Below.refl b2 wc
  have K1 := Lib.hid k1
  by_cases h0 : x.t = 0
  ·have ht := h0
   have HP : Hid (plainH x = { (default : Hd) with t := x.t, name := x.name, text := x.text }) := by unfold Hid plainH; rw [if_pos ht]
   go_upto_region 2 with fail
   refine pR [.pointer (some ⟨b1, 0, none⟩)] ?_
   refine Wl.ld (k1.cell 0 (.int .i64 x.t) (by kernel_rfl)) underlying3 ?_
   refine ieT .i64 x.t 0 ?_
   refine pQ [_] ?_
   go_upto_region 3 with fail
   refine wp_region_noPanic ?_
   have hSd3 := hsc.drew
   have hzd3 := hSd3.size
   have hze3 : (wc).drew.heap.size = (wc).heap.size := rfl
   refine wp_region_held_drew (S := fun w' => Below (b2) wc w') (by kernel_rfl) hSd3 (fun _ => ?_)
   replace k1 := k1.grow (below_drew1 _)
   replace k2 := k2.grow (below_drew1 _)
   replace kg := kg.grow (below_drew1 _)
   refine tk 0 (.pointer (some ⟨b1, 1, none⟩)) rfl yR hSd3 ?_
   refine tk 1 (.slice A1 x.name.length c1) rfl (yL underlying22 (fun w1 h => (K1.out.bel h l2).cell 1 _ rfl)) hSd3 ?_
   refine tk 2 (.pointer (some ⟨b1, 2, none⟩)) rfl yR hSd3 ?_
   refine tk 3 (.slice A2 x.text.length c2) rfl (yL underlying22 (fun w1 h => (K1.out.bel h l2).cell 2 _ rfl)) hSd3 ?_
   refine tk 4 (.pointer (some ⟨g, 1, none⟩)) rfl yR hSd3 ?_
   refine rd 5 rfl (fun K hK => ?_)
   refine sA 22 g 1 [.slice A1 x.name.length c1] #[.int .i64 x.t, .slice A1 x.name.length c1, .slice none 0 0, .slice none 0 0, .slice none 0 0, .slice none 0 0, .bool false, .bool false, .slice none 0 0, .slice none 0 0, .slice none 0 0, .int .i64 0, .slice none 0 0, .slice none 0 0, .slice none 0 0, .int .u32 0, .slice none 0 0, .slice none 0 0, .slice none 0 0, .slice none 0 0, .int .i64 0] 34 kg ?_
   intro w11 kg' hO11
   replace k1 := k1.oth hO11 (by omega)
   replace k2 := k2.oth hO11 (by omega)
   have hS11 := hSd3.trans (hO11.below (by omega))
   have hz11 := hS11.size
   clear kg
   have kg := kg'
   clear kg'
   have hzz11 := hO11.size
   replace hO11 := Lib.hid hO11
   refine sh hK hS11 ?_
   clear hK K
   refine tk 6 (.pointer (some ⟨g, 2, none⟩)) rfl yR hS11 ?_
   refine rd 7 rfl (fun K hK => ?_)
   refine sA 22 g 2 [.slice A2 x.text.length c2] #[.int .i64 x.t, .slice A1 x.name.length c1, .slice A2 x.text.length c2, .slice none 0 0, .slice none 0 0, .slice none 0 0, .bool false, .bool false, .slice none 0 0, .slice none 0 0, .slice none 0 0, .int .i64 0, .slice none 0 0, .slice none 0 0, .slice none 0 0, .int .u32 0, .slice none 0 0, .slice none 0 0, .slice none 0 0, .slice none 0 0, .int .i64 0] 34 kg ?_
   intro w12 kg' hO12
   replace k1 := k1.oth hO12 (by omega)
   replace k2 := k2.oth hO12 (by omega)
   have hS12 := hS11.trans (hO12.below (by omega))
   have hz12 := hS12.size
   clear kg
   have kg := kg'
   clear kg'
   have hzz12 := hO12.size
   replace hO12 := Lib.hid hO12
   refine sh hK hS12 ?_
   clear hK K
   refine wpAnyH_done (by kernel_rfl) ?_ _
   refine NoPanic.normal ?_
   go_upto_region 16 with fail
   apply wR
   refine Wl.la (#[.int .i64 x.t, .slice A1 x.name.length c1, .slice A2 x.text.length c2, .slice none 0 0, .slice none 0 0, .slice none 0 0, .bool false, .bool false, .slice none 0 0, .slice none 0 0, .slice none 0 0, .int .i64 0, .slice none 0 0, .slice none 0 0, .slice none 0 0, .int .u32 0, .slice none 0 0, .slice none 0 0, .slice none 0 0, .slice none 0 0, .int .i64 0]) (kg.sub 0 _ (by kernel_rfl)) underlying34 ?_
   refine cB 34 b2 0 [.int .i64 x.t, .slice A1 x.name.length c1, .slice A2 x.text.length c2, .slice none 0 0, .slice none 0 0, .slice none 0 0, .bool false, .bool false, .slice none 0 0, .slice none 0 0, .slice none 0 0, .int .i64 0, .slice none 0 0, .slice none 0 0, .slice none 0 0, .int .u32 0, .slice none 0 0, .slice none 0 0, .slice none 0 0, .slice none 0 0, .int .i64 0] 34 k2 ?_
   intro w13 k2' hO13
   replace k1 := k1.oth hO13 (by omega)
   replace kg := kg.oth hO13 (by omega)
   have hS13 := hS12.trans (hO13.below (by omega))
   have hz13 := hS13.size
   clear k2
   have k2 := k2'
   clear k2'
   have hzz13 := hO13.size
   replace hO13 := Lib.hid hO13
   refine wN ?_
   go_wp2
   have HB := hb.trans (hS13.mono (by omega))
   refine bodyPost_ret (results_cell_row rfl _ _ _ _ _ _ _ rfl k2 underlying34 rfl (by kernel_rfl)) rfl ⟨_, rfl, fun z hz => ?_, HB⟩
   have HZ := HH.out z (Ax.of HB hz)
   rw [HP.out]
   exact HdR.mk21 (x := { (default : Hd) with t := x.t, name := x.name, text := x.text }) (by obtain ⟨v, e, r⟩ := HZ.name; cases e; exact r) (by obtain ⟨v, e, r⟩ := HZ.text; cases e; exact r) (bs_nil z) (ur0_R z) (kvs_nil z) (bs_nil z) (bs_nil z) (bs_nil z) (bs_nil z) HZ.tLo HZ.tHi (by show (0 : Int) ≤ 0; decide) (by show (0 : Int) ≤ 4294967295; decide) (by show (-9223372036854775808 : Int) ≤ 0; decide) (by show (0 : Int) ≤ 9223372036854775807; decide)
  cases hA : addressed x.t
  case neg.true =>
   have ht := hA
   have HP : Hid (plainH x = { (default : Hd) with t := x.t, name := nameL x.t, disp := x.disp, uri := x.uri, ps := x.ps }) := by unfold Hid plainH; rw [if_neg h0, if_pos ht]
   go_upto_region 2 with fail
   refine pR [.pointer (some ⟨b1, 0, none⟩)] ?_
   refine Wl.ld (k1.cell 0 (.int .i64 x.t) (by kernel_rfl)) underlying3 ?_
   refine ieF .i64 x.t 0 ?_
   refine pQ [_] ?_
   go_upto_region 4 with fail
   refine pR [.pointer (some ⟨b1, 0, none⟩)] ?_
   refine Wl.ld (k1.cell 0 (.int .i64 x.t) (by kernel_rfl)) underlying3 ?_
   refine cC func42 #[.int .i64 x.t] (isAddr_at x.t true ht _) ?_
   rintro e _ ⟨rfl, rfl⟩
   refine cR ?_
   refine pQ [_] ?_
   go_upto_region 5 with fail
   refine wp_region_noPanic ?_
   have hSd5 := hsc.drew
   have hzd5 := hSd5.size
   have hze5 : (wc).drew.heap.size = (wc).heap.size := rfl
   refine wp_region_held_drew (S := fun w' => Below (b2) wc w') (by kernel_rfl) hSd5 (fun _ => ?_)
   replace k1 := k1.grow (below_drew1 _)
   replace k2 := k2.grow (below_drew1 _)
   replace kg := kg.grow (below_drew1 _)
   refine tk 0 (.pointer (some ⟨b1, 3, none⟩)) rfl yR hSd5 ?_
   refine tk 1 (.slice A3 x.disp.length c3) rfl (yL underlying22 (fun w1 h => (K1.out.bel h l2).cell 3 _ rfl)) hSd5 ?_
   refine tk 2 (.pointer (some ⟨b1, 4, none⟩)) rfl yR hSd5 ?_
   refine tk 3 (.agg #[.slice A4 x.uri.scheme.length c4, .slice A5 x.uri.raw.length c5, .bool x.uri.star, .bool x.uri.slashes, .slice A8 x.uri.user.length c8, .slice A9 x.uri.pass.length c9, .slice A10 x.uri.host.length c10, .int .i64 x.uri.port, .slice A12 x.uri.ps.length c12, .slice A13 x.uri.hs.length c13]) rfl (yA 25 b1 4 #[.slice A4 x.uri.scheme.length c4, .slice A5 x.uri.raw.length c5, .bool x.uri.star, .bool x.uri.slashes, .slice A8 x.uri.user.length c8, .slice A9 x.uri.pass.length c9, .slice A10 x.uri.host.length c10, .int .i64 x.uri.port, .slice A12 x.uri.ps.length c12, .slice A13 x.uri.hs.length c13] underlying25 (by kernel_rfl) (fun w1 h => (K1.out.bel h l2).sub 4 _ (by kernel_rfl))) hSd5 ?_
   refine tk 4 (.pointer (some ⟨b1, 14, none⟩)) rfl yR hSd5 ?_
   refine tk 5 (.slice A14 x.ps.length c14) rfl (yL underlying23 (fun w1 h => (K1.out.bel h l2).cell 14 _ rfl)) hSd5 ?_
   refine tk 6 (.pointer (some ⟨g, 3, none⟩)) rfl yR hSd5 ?_
   refine rd 7 rfl (fun K hK => ?_)
   refine sA 22 g 3 [.slice A3 x.disp.length c3] #[.int .i64 x.t, .slice An ln cn, .slice none 0 0, .slice A3 x.disp.length c3, .slice none 0 0, .slice none 0 0, .bool false, .bool false, .slice none 0 0, .slice none 0 0, .slice none 0 0, .int .i64 0, .slice none 0 0, .slice none 0 0, .slice none 0 0, .int .u32 0, .slice none 0 0, .slice none 0 0, .slice none 0 0, .slice none 0 0, .int .i64 0] 34 kg ?_
   intro w11 kg' hO11
   replace k1 := k1.oth hO11 (by omega)
   replace k2 := k2.oth hO11 (by omega)
   have hS11 := hSd5.trans (hO11.below (by omega))
   have hz11 := hS11.size
   clear kg
   have kg := kg'
   clear kg'
   have hzz11 := hO11.size
   replace hO11 := Lib.hid hO11
   refine sh hK hS11 ?_
   clear hK K
   refine tk 8 (.pointer (some ⟨g, 4, none⟩)) rfl yR hS11 ?_
   refine rd 9 rfl (fun K hK => ?_)
   refine sA 25 g 4 [.slice A4 x.uri.scheme.length c4, .slice A5 x.uri.raw.length c5, .bool x.uri.star, .bool x.uri.slashes, .slice A8 x.uri.user.length c8, .slice A9 x.uri.pass.length c9, .slice A10 x.uri.host.length c10, .int .i64 x.uri.port, .slice A12 x.uri.ps.length c12, .slice A13 x.uri.hs.length c13] #[.int .i64 x.t, .slice An ln cn, .slice none 0 0, .slice A3 x.disp.length c3, .slice A4 x.uri.scheme.length c4, .slice A5 x.uri.raw.length c5, .bool x.uri.star, .bool x.uri.slashes, .slice A8 x.uri.user.length c8, .slice A9 x.uri.pass.length c9, .slice A10 x.uri.host.length c10, .int .i64 x.uri.port, .slice A12 x.uri.ps.length c12, .slice A13 x.uri.hs.length c13, .slice none 0 0, .int .u32 0, .slice none 0 0, .slice none 0 0, .slice none 0 0, .slice none 0 0, .int .i64 0] 34 kg ?_
   intro w12 kg' hO12
   replace k1 := k1.oth hO12 (by omega)
   replace k2 := k2.oth hO12 (by omega)
   have hS12 := hS11.trans (hO12.below (by omega))
   have hz12 := hS12.size
   clear kg
   have kg := kg'
   clear kg'
   have hzz12 := hO12.size
   replace hO12 := Lib.hid hO12
   refine sh hK hS12 ?_
   clear hK K
   refine tk 10 (.pointer (some ⟨g, 14, none⟩)) rfl yR hS12 ?_
   refine rd 11 rfl (fun K hK => ?_)
   refine sA 23 g 14 [.slice A14 x.ps.length c14] #[.int .i64 x.t, .slice An ln cn, .slice none 0 0, .slice A3 x.disp.length c3, .slice A4 x.uri.scheme.length c4, .slice A5 x.uri.raw.length c5, .bool x.uri.star, .bool x.uri.slashes, .slice A8 x.uri.user.length c8, .slice A9 x.uri.pass.length c9, .slice A10 x.uri.host.length c10, .int .i64 x.uri.port, .slice A12 x.uri.ps.length c12, .slice A13 x.uri.hs.length c13, .slice A14 x.ps.length c14, .int .u32 0, .slice none 0 0, .slice none 0 0, .slice none 0 0, .slice none 0 0, .int .i64 0] 34 kg ?_
   intro w13 kg' hO13
   replace k1 := k1.oth hO13 (by omega)
   replace k2 := k2.oth hO13 (by omega)
   have hS13 := hS12.trans (hO13.below (by omega))
   have hz13 := hS13.size
   clear kg
   have kg := kg'
   clear kg'
   have hzz13 := hO13.size
   replace hO13 := Lib.hid hO13
   refine sh hK hS13 ?_
   clear hK K
   refine wpAnyH_done (by kernel_rfl) ?_ _
   refine NoPanic.normal ?_
   go_upto_region 16 with fail
   apply wR
   refine Wl.la (#[.int .i64 x.t, .slice An ln cn, .slice none 0 0, .slice A3 x.disp.length c3, .slice A4 x.uri.scheme.length c4, .slice A5 x.uri.raw.length c5, .bool x.uri.star, .bool x.uri.slashes, .slice A8 x.uri.user.length c8, .slice A9 x.uri.pass.length c9, .slice A10 x.uri.host.length c10, .int .i64 x.uri.port, .slice A12 x.uri.ps.length c12, .slice A13 x.uri.hs.length c13, .slice A14 x.ps.length c14, .int .u32 0, .slice none 0 0, .slice none 0 0, .slice none 0 0, .slice none 0 0, .int .i64 0]) (kg.sub 0 _ (by kernel_rfl)) underlying34 ?_
   refine cB 34 b2 0 [.int .i64 x.t, .slice An ln cn, .slice none 0 0, .slice A3 x.disp.length c3, .slice A4 x.uri.scheme.length c4, .slice A5 x.uri.raw.length c5, .bool x.uri.star, .bool x.uri.slashes, .slice A8 x.uri.user.length c8, .slice A9 x.uri.pass.length c9, .slice A10 x.uri.host.length c10, .int .i64 x.uri.port, .slice A12 x.uri.ps.length c12, .slice A13 x.uri.hs.length c13, .slice A14 x.ps.length c14, .int .u32 0, .slice none 0 0, .slice none 0 0, .slice none 0 0, .slice none 0 0, .int .i64 0] 34 k2 ?_
   intro w14 k2' hO14
   replace k1 := k1.oth hO14 (by omega)
   replace kg := kg.oth hO14 (by omega)
   have hS14 := hS13.trans (hO14.below (by omega))
   have hz14 := hS14.size
   clear k2
   have k2 := k2'
   clear k2'
   have hzz14 := hO14.size
   replace hO14 := Lib.hid hO14
   refine wN ?_
   go_wp2
   have HB := hb.trans (hS14.mono (by omega))
   refine bodyPost_ret (results_cell_row rfl _ _ _ _ _ _ _ rfl k2 underlying34 rfl (by kernel_rfl)) rfl ⟨_, rfl, fun z hz => ?_, HB⟩
   have HZ := HH.out z (Ax.of HB hz)
   rw [HP.out]
   exact HdR.mk21 (x := { (default : Hd) with t := x.t, name := nameL x.t, disp := x.disp, uri := x.uri, ps := x.ps }) ((HNM.out.grow (below_drew1 _)) z ((Ax.oth hO11.out (.inr (.inr rfl)) (Ax.oth hO12.out (.inr (.inr rfl)) (Ax.oth hO13.out (.inr (.inr rfl)) (Ax.oth hO14.out (.inr (.inl rfl)) (hz.mono fun _ h => .inl h))))))) (bs_nil z) (by obtain ⟨v, e, r⟩ := HZ.disp; cases e; exact r) HZ.uri (by obtain ⟨v, e, r⟩ := HZ.ps; cases e; exact r) (bs_nil z) (bs_nil z) (bs_nil z) (bs_nil z) HZ.tLo HZ.tHi (by show (0 : Int) ≤ 0; decide) (by show (0 : Int) ≤ 4294967295; decide) (by show (-9223372036854775808 : Int) ≤ 0; decide) (by show (0 : Int) ≤ 9223372036854775807; decide)
  cases hR : routed x.t
  case neg.false.true =>
   have ht := hR
   have HP : Hid (plainH x = { (default : Hd) with t := x.t, name := nameL x.t, uri := x.uri }) := by unfold Hid plainH; rw [if_neg h0, if_neg (by rw [hA]; decide), if_pos ht]
   go_upto_region 2 with fail
   refine pR [.pointer (some ⟨b1, 0, none⟩)] ?_
   refine Wl.ld (k1.cell 0 (.int .i64 x.t) (by kernel_rfl)) underlying3 ?_
   refine ieF .i64 x.t 0 ?_
   refine pQ [_] ?_
   go_upto_region 4 with fail
   refine pR [.pointer (some ⟨b1, 0, none⟩)] ?_
   refine Wl.ld (k1.cell 0 (.int .i64 x.t) (by kernel_rfl)) underlying3 ?_
   refine cC func42 #[.int .i64 x.t] (isAddr_at x.t false hA _) ?_
   rintro e _ ⟨rfl, rfl⟩
   refine cR ?_
   refine pQ [_] ?_
   go_upto_region 6 with fail
   refine pR [.pointer (some ⟨b1, 0, none⟩)] ?_
   refine Wl.ld (k1.cell 0 (.int .i64 x.t) (by kernel_rfl)) underlying3 ?_
   refine cC func44 #[.int .i64 x.t] (isRout_at x.t true ht _) ?_
   rintro e _ ⟨rfl, rfl⟩
   refine cR ?_
   refine pQ [_] ?_
   go_upto_region 7 with fail
   refine pR [.pointer (some ⟨b1, 4, none⟩)] ?_
   refine Wl.la (#[.slice A4 x.uri.scheme.length c4, .slice A5 x.uri.raw.length c5, .bool x.uri.star, .bool x.uri.slashes, .slice A8 x.uri.user.length c8, .slice A9 x.uri.pass.length c9, .slice A10 x.uri.host.length c10, .int .i64 x.uri.port, .slice A12 x.uri.ps.length c12, .slice A13 x.uri.hs.length c13]) (k1.sub 4 _ (by kernel_rfl)) underlying25 ?_
   refine pP [.pointer (some ⟨g, 4, none⟩)] ?_
   refine cB 25 g 4 [.slice A4 x.uri.scheme.length c4, .slice A5 x.uri.raw.length c5, .bool x.uri.star, .bool x.uri.slashes, .slice A8 x.uri.user.length c8, .slice A9 x.uri.pass.length c9, .slice A10 x.uri.host.length c10, .int .i64 x.uri.port, .slice A12 x.uri.ps.length c12, .slice A13 x.uri.hs.length c13] 34 kg ?_
   intro w11 kg' hO11
   replace k1 := k1.oth hO11 (by omega)
   replace k2 := k2.oth hO11 (by omega)
   have hS11 := hsc.trans (hO11.below (by omega))
   have hz11 := hS11.size
   clear kg
   have kg := kg'
   clear kg'
   have hzz11 := hO11.size
   replace hO11 := Lib.hid hO11
   refine wN ?_
   go_upto_region 16 with fail
   apply wR
   refine Wl.la (#[.int .i64 x.t, .slice An ln cn, .slice none 0 0, .slice none 0 0, .slice A4 x.uri.scheme.length c4, .slice A5 x.uri.raw.length c5, .bool x.uri.star, .bool x.uri.slashes, .slice A8 x.uri.user.length c8, .slice A9 x.uri.pass.length c9, .slice A10 x.uri.host.length c10, .int .i64 x.uri.port, .slice A12 x.uri.ps.length c12, .slice A13 x.uri.hs.length c13, .slice none 0 0, .int .u32 0, .slice none 0 0, .slice none 0 0, .slice none 0 0, .slice none 0 0, .int .i64 0]) (kg.sub 0 _ (by kernel_rfl)) underlying34 ?_
   refine cB 34 b2 0 [.int .i64 x.t, .slice An ln cn, .slice none 0 0, .slice none 0 0, .slice A4 x.uri.scheme.length c4, .slice A5 x.uri.raw.length c5, .bool x.uri.star, .bool x.uri.slashes, .slice A8 x.uri.user.length c8, .slice A9 x.uri.pass.length c9, .slice A10 x.uri.host.length c10, .int .i64 x.uri.port, .slice A12 x.uri.ps.length c12, .slice A13 x.uri.hs.length c13, .slice none 0 0, .int .u32 0, .slice none 0 0, .slice none 0 0, .slice none 0 0, .slice none 0 0, .int .i64 0] 34 k2 ?_
   intro w12 k2' hO12
   replace k1 := k1.oth hO12 (by omega)
   replace kg := kg.oth hO12 (by omega)
   have hS12 := hS11.trans (hO12.below (by omega))
   have hz12 := hS12.size
   clear k2
   have k2 := k2'
   clear k2'
   have hzz12 := hO12.size
   replace hO12 := Lib.hid hO12
   refine wN ?_
   go_wp2
   have HB := hb.trans (hS12.mono (by omega))
   refine bodyPost_ret (results_cell_row rfl _ _ _ _ _ _ _ rfl k2 underlying34 rfl (by kernel_rfl)) rfl ⟨_, rfl, fun z hz => ?_, HB⟩
   have HZ := HH.out z (Ax.of HB hz)
   rw [HP.out]
   exact HdR.mk21 (x := { (default : Hd) with t := x.t, name := nameL x.t, uri := x.uri }) (HNM.out z ((Ax.oth hO11.out (.inr (.inr rfl)) (Ax.oth hO12.out (.inr (.inl rfl)) (hz.mono fun _ h => .inl h))))) (bs_nil z) (bs_nil z) HZ.uri (kvs_nil z) (bs_nil z) (bs_nil z) (bs_nil z) (bs_nil z) HZ.tLo HZ.tHi (by show (0 : Int) ≤ 0; decide) (by show (0 : Int) ≤ 4294967295; decide) (by show (-9223372036854775808 : Int) ≤ 0; decide) (by show (0 : Int) ≤ 9223372036854775807; decide)
  cases hN : numbered x.t
  case neg.false.false.true =>
   have ht := hN
   have HP : Hid (plainH x = { (default : Hd) with t := x.t, name := nameL x.t, num := x.num }) := by unfold Hid plainH; rw [if_neg h0, if_neg (by rw [hA]; decide), if_neg (by rw [hR]; decide), if_pos ht]
   go_upto_region 2 with fail
   refine pR [.pointer (some ⟨b1, 0, none⟩)] ?_
   refine Wl.ld (k1.cell 0 (.int .i64 x.t) (by kernel_rfl)) underlying3 ?_
   refine ieF .i64 x.t 0 ?_
   refine pQ [_] ?_
   go_upto_region 4 with fail
   refine pR [.pointer (some ⟨b1, 0, none⟩)] ?_
   refine Wl.ld (k1.cell 0 (.int .i64 x.t) (by kernel_rfl)) underlying3 ?_
   refine cC func42 #[.int .i64 x.t] (isAddr_at x.t false hA _) ?_
   rintro e _ ⟨rfl, rfl⟩
   refine cR ?_
   refine pQ [_] ?_
   go_upto_region 6 with fail
   refine pR [.pointer (some ⟨b1, 0, none⟩)] ?_
   refine Wl.ld (k1.cell 0 (.int .i64 x.t) (by kernel_rfl)) underlying3 ?_
   refine cC func44 #[.int .i64 x.t] (isRout_at x.t false hR _) ?_
   rintro e _ ⟨rfl, rfl⟩
   refine cR ?_
   refine pQ [_] ?_
   go_upto_region 8 with fail
   refine pR [.pointer (some ⟨b1, 0, none⟩)] ?_
   refine Wl.ld (k1.cell 0 (.int .i64 x.t) (by kernel_rfl)) underlying3 ?_
   refine cC func45 #[.int .i64 x.t] (isNumb_at x.t true ht _) ?_
   rintro e _ ⟨rfl, rfl⟩
   refine cR ?_
   refine pQ [_] ?_
   go_upto_region 9 with fail
   refine pR [.pointer (some ⟨b1, 15, none⟩)] ?_
   refine Wl.ld (k1.cell 15 (.int .u32 x.num) (by kernel_rfl)) underlying32 ?_
   refine pP [.pointer (some ⟨g, 15, none⟩)] ?_
   refine cB 32 g 15 [.int .u32 x.num] 34 kg ?_
   intro w11 kg' hO11
   replace k1 := k1.oth hO11 (by omega)
   replace k2 := k2.oth hO11 (by omega)
   have hS11 := hsc.trans (hO11.below (by omega))
   have hz11 := hS11.size
   clear kg
   have kg := kg'
   clear kg'
   have hzz11 := hO11.size
   replace hO11 := Lib.hid hO11
   refine wN ?_
   go_upto_region 16 with fail
   apply wR
   refine Wl.la (#[.int .i64 x.t, .slice An ln cn, .slice none 0 0, .slice none 0 0, .slice none 0 0, .slice none 0 0, .bool false, .bool false, .slice none 0 0, .slice none 0 0, .slice none 0 0, .int .i64 0, .slice none 0 0, .slice none 0 0, .slice none 0 0, .int .u32 x.num, .slice none 0 0, .slice none 0 0, .slice none 0 0, .slice none 0 0, .int .i64 0]) (kg.sub 0 _ (by kernel_rfl)) underlying34 ?_
   refine cB 34 b2 0 [.int .i64 x.t, .slice An ln cn, .slice none 0 0, .slice none 0 0, .slice none 0 0, .slice none 0 0, .bool false, .bool false, .slice none 0 0, .slice none 0 0, .slice none 0 0, .int .i64 0, .slice none 0 0, .slice none 0 0, .slice none 0 0, .int .u32 x.num, .slice none 0 0, .slice none 0 0, .slice none 0 0, .slice none 0 0, .int .i64 0] 34 k2 ?_
   intro w12 k2' hO12
   replace k1 := k1.oth hO12 (by omega)
   replace kg := kg.oth hO12 (by omega)
   have hS12 := hS11.trans (hO12.below (by omega))
   have hz12 := hS12.size
   clear k2
   have k2 := k2'
   clear k2'
   have hzz12 := hO12.size
   replace hO12 := Lib.hid hO12
   refine wN ?_
   go_wp2
   have HB := hb.trans (hS12.mono (by omega))
   refine bodyPost_ret (results_cell_row rfl _ _ _ _ _ _ _ rfl k2 underlying34 rfl (by kernel_rfl)) rfl ⟨_, rfl, fun z hz => ?_, HB⟩
   have HZ := HH.out z (Ax.of HB hz)
   rw [HP.out]
   exact HdR.mk21 (x := { (default : Hd) with t := x.t, name := nameL x.t, num := x.num }) (HNM.out z ((Ax.oth hO11.out (.inr (.inr rfl)) (Ax.oth hO12.out (.inr (.inl rfl)) (hz.mono fun _ h => .inl h))))) (bs_nil z) (bs_nil z) (ur0_R z) (kvs_nil z) (bs_nil z) (bs_nil z) (bs_nil z) (bs_nil z) HZ.tLo HZ.tHi HZ.numLo HZ.numHi (by show (-9223372036854775808 : Int) ≤ 0; decide) (by show (0 : Int) ≤ 9223372036854775807; decide)
  by_cases h4 : x.t = 4
  ·have ht := h4
   have HP : Hid (plainH x = { (default : Hd) with t := x.t, name := nameL x.t, text := x.text }) := by unfold Hid plainH; rw [if_neg h0, if_neg (by rw [hA]; decide), if_neg (by rw [hR]; decide), if_neg (by rw [hN]; decide), if_pos (by omega)]
   go_upto_region 2 with fail
   refine pR [.pointer (some ⟨b1, 0, none⟩)] ?_
   refine Wl.ld (k1.cell 0 (.int .i64 x.t) (by kernel_rfl)) underlying3 ?_
   refine ieF .i64 x.t 0 ?_
   refine pQ [_] ?_
   go_upto_region 4 with fail
   refine pR [.pointer (some ⟨b1, 0, none⟩)] ?_
   refine Wl.ld (k1.cell 0 (.int .i64 x.t) (by kernel_rfl)) underlying3 ?_
   refine cC func42 #[.int .i64 x.t] (isAddr_at x.t false hA _) ?_
   rintro e _ ⟨rfl, rfl⟩
   refine cR ?_
   refine pQ [_] ?_
   go_upto_region 6 with fail
   refine pR [.pointer (some ⟨b1, 0, none⟩)] ?_
   refine Wl.ld (k1.cell 0 (.int .i64 x.t) (by kernel_rfl)) underlying3 ?_
   refine cC func44 #[.int .i64 x.t] (isRout_at x.t false hR _) ?_
   rintro e _ ⟨rfl, rfl⟩
   refine cR ?_
   refine pQ [_] ?_
   go_upto_region 8 with fail
   refine pR [.pointer (some ⟨b1, 0, none⟩)] ?_
   refine Wl.ld (k1.cell 0 (.int .i64 x.t) (by kernel_rfl)) underlying3 ?_
   refine cC func45 #[.int .i64 x.t] (isNumb_at x.t false hN _) ?_
   rintro e _ ⟨rfl, rfl⟩
   refine cR ?_
   refine pQ [_] ?_
   go_upto_region 10 with fail
   refine pR [.pointer (some ⟨b1, 0, none⟩)] ?_
   refine Wl.ld (k1.cell 0 (.int .i64 x.t) (by kernel_rfl)) underlying3 ?_
   refine ieT .i64 x.t 4 ?_
   refine pP [_] ?_
   refine Wl.u ?_
   refine Wl.u ?_
   refine Wl.u ?_
   refine pQ [.bool true, _] ?_
   go_upto_region 11 with fail
   refine pR [.pointer (some ⟨b1, 2, none⟩)] ?_
   refine Wl.ld (k1.cell 2 (.slice A2 x.text.length c2) (by kernel_rfl)) underlying22 ?_
   refine pP [.pointer (some ⟨g, 2, none⟩)] ?_
   refine cB 22 g 2 [.slice A2 x.text.length c2] 34 kg ?_
   intro w11 kg' hO11
   replace k1 := k1.oth hO11 (by omega)
   replace k2 := k2.oth hO11 (by omega)
   have hS11 := hsc.trans (hO11.below (by omega))
   have hz11 := hS11.size
   clear kg
   have kg := kg'
   clear kg'
   have hzz11 := hO11.size
   replace hO11 := Lib.hid hO11
   refine wN ?_
   go_upto_region 16 with fail
   apply wR
   refine Wl.la (#[.int .i64 x.t, .slice An ln cn, .slice A2 x.text.length c2, .slice none 0 0, .slice none 0 0, .slice none 0 0, .bool false, .bool false, .slice none 0 0, .slice none 0 0, .slice none 0 0, .int .i64 0, .slice none 0 0, .slice none 0 0, .slice none 0 0, .int .u32 0, .slice none 0 0, .slice none 0 0, .slice none 0 0, .slice none 0 0, .int .i64 0]) (kg.sub 0 _ (by kernel_rfl)) underlying34 ?_
   refine cB 34 b2 0 [.int .i64 x.t, .slice An ln cn, .slice A2 x.text.length c2, .slice none 0 0, .slice none 0 0, .slice none 0 0, .bool false, .bool false, .slice none 0 0, .slice none 0 0, .slice none 0 0, .int .i64 0, .slice none 0 0, .slice none 0 0, .slice none 0 0, .int .u32 0, .slice none 0 0, .slice none 0 0, .slice none 0 0, .slice none 0 0, .int .i64 0] 34 k2 ?_
   intro w12 k2' hO12
   replace k1 := k1.oth hO12 (by omega)
   replace kg := kg.oth hO12 (by omega)
   have hS12 := hS11.trans (hO12.below (by omega))
   have hz12 := hS12.size
   clear k2
   have k2 := k2'
   clear k2'
   have hzz12 := hO12.size
   replace hO12 := Lib.hid hO12
   refine wN ?_
   go_wp2
   have HB := hb.trans (hS12.mono (by omega))
   refine bodyPost_ret (results_cell_row rfl _ _ _ _ _ _ _ rfl k2 underlying34 rfl (by kernel_rfl)) rfl ⟨_, rfl, fun z hz => ?_, HB⟩
   have HZ := HH.out z (Ax.of HB hz)
   rw [HP.out]
   exact HdR.mk21 (x := { (default : Hd) with t := x.t, name := nameL x.t, text := x.text }) (HNM.out z ((Ax.oth hO11.out (.inr (.inr rfl)) (Ax.oth hO12.out (.inr (.inl rfl)) (hz.mono fun _ h => .inl h))))) (by obtain ⟨v, e, r⟩ := HZ.text; cases e; exact r) (bs_nil z) (ur0_R z) (kvs_nil z) (bs_nil z) (bs_nil z) (bs_nil z) (bs_nil z) HZ.tLo HZ.tHi (by show (0 : Int) ≤ 0; decide) (by show (0 : Int) ≤ 4294967295; decide) (by show (-9223372036854775808 : Int) ≤ 0; decide) (by show (0 : Int) ≤ 9223372036854775807; decide)
  by_cases h10 : x.t = 10
  ·have ht := h10
   have HP : Hid (plainH x = { (default : Hd) with t := x.t, name := nameL x.t, text := x.text }) := by unfold Hid plainH; rw [if_neg h0, if_neg (by rw [hA]; decide), if_neg (by rw [hR]; decide), if_neg (by rw [hN]; decide), if_pos (by omega)]
   go_upto_region 2 with fail
   refine pR [.pointer (some ⟨b1, 0, none⟩)] ?_
   refine Wl.ld (k1.cell 0 (.int .i64 x.t) (by kernel_rfl)) underlying3 ?_
   refine ieF .i64 x.t 0 ?_
   refine pQ [_] ?_
   go_upto_region 4 with fail
   refine pR [.pointer (some ⟨b1, 0, none⟩)] ?_
   refine Wl.ld (k1.cell 0 (.int .i64 x.t) (by kernel_rfl)) underlying3 ?_
   refine cC func42 #[.int .i64 x.t] (isAddr_at x.t false hA _) ?_
   rintro e _ ⟨rfl, rfl⟩
   refine cR ?_
   refine pQ [_] ?_
   go_upto_region 6 with fail
   refine pR [.pointer (some ⟨b1, 0, none⟩)] ?_
   refine Wl.ld (k1.cell 0 (.int .i64 x.t) (by kernel_rfl)) underlying3 ?_
   refine cC func44 #[.int .i64 x.t] (isRout_at x.t false hR _) ?_
   rintro e _ ⟨rfl, rfl⟩
   refine cR ?_
   refine pQ [_] ?_
   go_upto_region 8 with fail
   refine pR [.pointer (some ⟨b1, 0, none⟩)] ?_
   refine Wl.ld (k1.cell 0 (.int .i64 x.t) (by kernel_rfl)) underlying3 ?_
   refine cC func45 #[.int .i64 x.t] (isNumb_at x.t false hN _) ?_
   rintro e _ ⟨rfl, rfl⟩
   refine cR ?_
   refine pQ [_] ?_
   go_upto_region 10 with fail
   refine pR [.pointer (some ⟨b1, 0, none⟩)] ?_
   refine Wl.ld (k1.cell 0 (.int .i64 x.t) (by kernel_rfl)) underlying3 ?_
   refine ieF .i64 x.t 4 ?_
   refine pP [_, .pointer (some ⟨b1, 0, none⟩)] ?_
   refine Wl.ld (k1.cell 0 (.int .i64 x.t) (by kernel_rfl)) underlying3 ?_
   refine ieT .i64 x.t 10 ?_
   refine pQ [.bool true, _] ?_
   go_upto_region 11 with fail
   refine pR [.pointer (some ⟨b1, 2, none⟩)] ?_
   refine Wl.ld (k1.cell 2 (.slice A2 x.text.length c2) (by kernel_rfl)) underlying22 ?_
   refine pP [.pointer (some ⟨g, 2, none⟩)] ?_
   refine cB 22 g 2 [.slice A2 x.text.length c2] 34 kg ?_
   intro w11 kg' hO11
   replace k1 := k1.oth hO11 (by omega)
   replace k2 := k2.oth hO11 (by omega)
   have hS11 := hsc.trans (hO11.below (by omega))
   have hz11 := hS11.size
   clear kg
   have kg := kg'
   clear kg'
   have hzz11 := hO11.size
   replace hO11 := Lib.hid hO11
   refine wN ?_
   go_upto_region 16 with fail
   apply wR
   refine Wl.la (#[.int .i64 x.t, .slice An ln cn, .slice A2 x.text.length c2, .slice none 0 0, .slice none 0 0, .slice none 0 0, .bool false, .bool false, .slice none 0 0, .slice none 0 0, .slice none 0 0, .int .i64 0, .slice none 0 0, .slice none 0 0, .slice none 0 0, .int .u32 0, .slice none 0 0, .slice none 0 0, .slice none 0 0, .slice none 0 0, .int .i64 0]) (kg.sub 0 _ (by kernel_rfl)) underlying34 ?_
   refine cB 34 b2 0 [.int .i64 x.t, .slice An ln cn, .slice A2 x.text.length c2, .slice none 0 0, .slice none 0 0, .slice none 0 0, .bool false, .bool false, .slice none 0 0, .slice none 0 0, .slice none 0 0, .int .i64 0, .slice none 0 0, .slice none 0 0, .slice none 0 0, .int .u32 0, .slice none 0 0, .slice none 0 0, .slice none 0 0, .slice none 0 0, .int .i64 0] 34 k2 ?_
   intro w12 k2' hO12
   replace k1 := k1.oth hO12 (by omega)
   replace kg := kg.oth hO12 (by omega)
   have hS12 := hS11.trans (hO12.below (by omega))
   have hz12 := hS12.size
   clear k2
   have k2 := k2'
   clear k2'
   have hzz12 := hO12.size
   replace hO12 := Lib.hid hO12
   refine wN ?_
   go_wp2
   have HB := hb.trans (hS12.mono (by omega))
   refine bodyPost_ret (results_cell_row rfl _ _ _ _ _ _ _ rfl k2 underlying34 rfl (by kernel_rfl)) rfl ⟨_, rfl, fun z hz => ?_, HB⟩
   have HZ := HH.out z (Ax.of HB hz)
   rw [HP.out]
   exact HdR.mk21 (x := { (default : Hd) with t := x.t, name := nameL x.t, text := x.text }) (HNM.out z ((Ax.oth hO11.out (.inr (.inr rfl)) (Ax.oth hO12.out (.inr (.inl rfl)) (hz.mono fun _ h => .inl h))))) (by obtain ⟨v, e, r⟩ := HZ.text; cases e; exact r) (bs_nil z) (ur0_R z) (kvs_nil z) (bs_nil z) (bs_nil z) (bs_nil z) (bs_nil z) HZ.tLo HZ.tHi (by show (0 : Int) ≤ 0; decide) (by show (0 : Int) ≤ 4294967295; decide) (by show (-9223372036854775808 : Int) ≤ 0; decide) (by show (0 : Int) ≤ 9223372036854775807; decide)
  by_cases h5 : x.t = 5
  ·have ht := h5
   have HP : Hid (plainH x = { (default : Hd) with t := x.t, name := nameL x.t, num := x.num, text := x.text }) := by unfold Hid plainH; rw [if_neg h0, if_neg (by rw [hA]; decide), if_neg (by rw [hR]; decide), if_neg (by rw [hN]; decide), if_neg (by omega), if_pos ht]
   go_upto_region 2 with fail
   refine pR [.pointer (some ⟨b1, 0, none⟩)] ?_
   refine Wl.ld (k1.cell 0 (.int .i64 x.t) (by kernel_rfl)) underlying3 ?_
   refine ieF .i64 x.t 0 ?_
   refine pQ [_] ?_
   go_upto_region 4 with fail
   refine pR [.pointer (some ⟨b1, 0, none⟩)] ?_
   refine Wl.ld (k1.cell 0 (.int .i64 x.t) (by kernel_rfl)) underlying3 ?_
   refine cC func42 #[.int .i64 x.t] (isAddr_at x.t false hA _) ?_
   rintro e _ ⟨rfl, rfl⟩
   refine cR ?_
   refine pQ [_] ?_
   go_upto_region 6 with fail
   refine pR [.pointer (some ⟨b1, 0, none⟩)] ?_
   refine Wl.ld (k1.cell 0 (.int .i64 x.t) (by kernel_rfl)) underlying3 ?_
   refine cC func44 #[.int .i64 x.t] (isRout_at x.t false hR _) ?_
   rintro e _ ⟨rfl, rfl⟩
   refine cR ?_
   refine pQ [_] ?_
   go_upto_region 8 with fail
   refine pR [.pointer (some ⟨b1, 0, none⟩)] ?_
   refine Wl.ld (k1.cell 0 (.int .i64 x.t) (by kernel_rfl)) underlying3 ?_
   refine cC func45 #[.int .i64 x.t] (isNumb_at x.t false hN _) ?_
   rintro e _ ⟨rfl, rfl⟩
   refine cR ?_
   refine pQ [_] ?_
   go_upto_region 10 with fail
   refine pR [.pointer (some ⟨b1, 0, none⟩)] ?_
   refine Wl.ld (k1.cell 0 (.int .i64 x.t) (by kernel_rfl)) underlying3 ?_
   refine ieF .i64 x.t 4 ?_
   refine pP [_, .pointer (some ⟨b1, 0, none⟩)] ?_
   refine Wl.ld (k1.cell 0 (.int .i64 x.t) (by kernel_rfl)) underlying3 ?_
   refine ieF .i64 x.t 10 ?_
   refine pQ [.bool false, _] ?_
   go_upto_region 12 with fail
   refine pR [.pointer (some ⟨b1, 0, none⟩)] ?_
   refine Wl.ld (k1.cell 0 (.int .i64 x.t) (by kernel_rfl)) underlying3 ?_
   refine ieT .i64 x.t 5 ?_
   refine pQ [_] ?_
   go_upto_region 13 with fail
   refine wp_region_noPanic ?_
   have hSd13 := hsc.drew
   have hzd13 := hSd13.size
   have hze13 : (wc).drew.heap.size = (wc).heap.size := rfl
   refine wp_region_held_drew (S := fun w' => Below (b2) wc w') (by kernel_rfl) hSd13 (fun _ => ?_)
   replace k1 := k1.grow (below_drew1 _)
   replace k2 := k2.grow (below_drew1 _)
   replace kg := kg.grow (below_drew1 _)
   refine tk 0 (.pointer (some ⟨b1, 15, none⟩)) rfl yR hSd13 ?_
   refine tk 1 (.int .u32 x.num) rfl (yL underlying32 (fun w1 h => (K1.out.bel h l2).cell 15 _ rfl)) hSd13 ?_
   refine tk 2 (.pointer (some ⟨b1, 2, none⟩)) rfl yR hSd13 ?_
   refine tk 3 (.slice A2 x.text.length c2) rfl (yL underlying22 (fun w1 h => (K1.out.bel h l2).cell 2 _ rfl)) hSd13 ?_
   refine tk 4 (.pointer (some ⟨g, 15, none⟩)) rfl yR hSd13 ?_
   refine rd 5 rfl (fun K hK => ?_)
   refine sA 32 g 15 [.int .u32 x.num] #[.int .i64 x.t, .slice An ln cn, .slice none 0 0, .slice none 0 0, .slice none 0 0, .slice none 0 0, .bool false, .bool false, .slice none 0 0, .slice none 0 0, .slice none 0 0, .int .i64 0, .slice none 0 0, .slice none 0 0, .slice none 0 0, .int .u32 x.num, .slice none 0 0, .slice none 0 0, .slice none 0 0, .slice none 0 0, .int .i64 0] 34 kg ?_
   intro w11 kg' hO11
   replace k1 := k1.oth hO11 (by omega)
   replace k2 := k2.oth hO11 (by omega)
   have hS11 := hSd13.trans (hO11.below (by omega))
   have hz11 := hS11.size
   clear kg
   have kg := kg'
   clear kg'
   have hzz11 := hO11.size
   replace hO11 := Lib.hid hO11
   refine sh hK hS11 ?_
   clear hK K
   refine tk 6 (.pointer (some ⟨g, 2, none⟩)) rfl yR hS11 ?_
   refine rd 7 rfl (fun K hK => ?_)
   refine sA 22 g 2 [.slice A2 x.text.length c2] #[.int .i64 x.t, .slice An ln cn, .slice A2 x.text.length c2, .slice none 0 0, .slice none 0 0, .slice none 0 0, .bool false, .bool false, .slice none 0 0, .slice none 0 0, .slice none 0 0, .int .i64 0, .slice none 0 0, .slice none 0 0, .slice none 0 0, .int .u32 x.num, .slice none 0 0, .slice none 0 0, .slice none 0 0, .slice none 0 0, .int .i64 0] 34 kg ?_
   intro w12 kg' hO12
   replace k1 := k1.oth hO12 (by omega)
   replace k2 := k2.oth hO12 (by omega)
   have hS12 := hS11.trans (hO12.below (by omega))
   have hz12 := hS12.size
   clear kg
   have kg := kg'
   clear kg'
   have hzz12 := hO12.size
   replace hO12 := Lib.hid hO12
   refine sh hK hS12 ?_
   clear hK K
   refine wpAnyH_done (by kernel_rfl) ?_ _
   refine NoPanic.normal ?_
   go_upto_region 16 with fail
   apply wR
   refine Wl.la (#[.int .i64 x.t, .slice An ln cn, .slice A2 x.text.length c2, .slice none 0 0, .slice none 0 0, .slice none 0 0, .bool false, .bool false, .slice none 0 0, .slice none 0 0, .slice none 0 0, .int .i64 0, .slice none 0 0, .slice none 0 0, .slice none 0 0, .int .u32 x.num, .slice none 0 0, .slice none 0 0, .slice none 0 0, .slice none 0 0, .int .i64 0]) (kg.sub 0 _ (by kernel_rfl)) underlying34 ?_
   refine cB 34 b2 0 [.int .i64 x.t, .slice An ln cn, .slice A2 x.text.length c2, .slice none 0 0, .slice none 0 0, .slice none 0 0, .bool false, .bool false, .slice none 0 0, .slice none 0 0, .slice none 0 0, .int .i64 0, .slice none 0 0, .slice none 0 0, .slice none 0 0, .int .u32 x.num, .slice none 0 0, .slice none 0 0, .slice none 0 0, .slice none 0 0, .int .i64 0] 34 k2 ?_
   intro w13 k2' hO13
   replace k1 := k1.oth hO13 (by omega)
   replace kg := kg.oth hO13 (by omega)
   have hS13 := hS12.trans (hO13.below (by omega))
   have hz13 := hS13.size
   clear k2
   have k2 := k2'
   clear k2'
   have hzz13 := hO13.size
   replace hO13 := Lib.hid hO13
   refine wN ?_
   go_wp2
   have HB := hb.trans (hS13.mono (by omega))
   refine bodyPost_ret (results_cell_row rfl _ _ _ _ _ _ _ rfl k2 underlying34 rfl (by kernel_rfl)) rfl ⟨_, rfl, fun z hz => ?_, HB⟩
   have HZ := HH.out z (Ax.of HB hz)
   rw [HP.out]
   exact HdR.mk21 (x := { (default : Hd) with t := x.t, name := nameL x.t, num := x.num, text := x.text }) ((HNM.out.grow (below_drew1 _)) z ((Ax.oth hO11.out (.inr (.inr rfl)) (Ax.oth hO12.out (.inr (.inr rfl)) (Ax.oth hO13.out (.inr (.inl rfl)) (hz.mono fun _ h => .inl h)))))) (by obtain ⟨v, e, r⟩ := HZ.text; cases e; exact r) (bs_nil z) (ur0_R z) (kvs_nil z) (bs_nil z) (bs_nil z) (bs_nil z) (bs_nil z) HZ.tLo HZ.tHi HZ.numLo HZ.numHi (by show (-9223372036854775808 : Int) ≤ 0; decide) (by show (0 : Int) ≤ 9223372036854775807; decide)
  by_cases h9 : x.t = 9
  ·have ht := h9
   have HP : Hid (plainH x = { (default : Hd) with t := x.t, name := nameL x.t, proto := x.proto, ver := x.ver, tr := x.tr, host := x.host, port := x.port, ps := x.ps }) := by unfold Hid plainH; rw [if_neg h0, if_neg (by rw [hA]; decide), if_neg (by rw [hR]; decide), if_neg (by rw [hN]; decide), if_neg (by omega), if_neg (by omega), if_pos ht]
   go_upto_region 2 with fail
   refine pR [.pointer (some ⟨b1, 0, none⟩)] ?_
   refine Wl.ld (k1.cell 0 (.int .i64 x.t) (by kernel_rfl)) underlying3 ?_
   refine ieF .i64 x.t 0 ?_
   refine pQ [_] ?_
   go_upto_region 4 with fail
   refine pR [.pointer (some ⟨b1, 0, none⟩)] ?_
   refine Wl.ld (k1.cell 0 (.int .i64 x.t) (by kernel_rfl)) underlying3 ?_
   refine cC func42 #[.int .i64 x.t] (isAddr_at x.t false hA _) ?_
   rintro e _ ⟨rfl, rfl⟩
   refine cR ?_
   refine pQ [_] ?_
   go_upto_region 6 with fail
   refine pR [.pointer (some ⟨b1, 0, none⟩)] ?_
   refine Wl.ld (k1.cell 0 (.int .i64 x.t) (by kernel_rfl)) underlying3 ?_
   refine cC func44 #[.int .i64 x.t] (isRout_at x.t false hR _) ?_
   rintro e _ ⟨rfl, rfl⟩
   refine cR ?_
   refine pQ [_] ?_
   go_upto_region 8 with fail
   refine pR [.pointer (some ⟨b1, 0, none⟩)] ?_
   refine Wl.ld (k1.cell 0 (.int .i64 x.t) (by kernel_rfl)) underlying3 ?_
   refine cC func45 #[.int .i64 x.t] (isNumb_at x.t false hN _) ?_
   rintro e _ ⟨rfl, rfl⟩
   refine cR ?_
   refine pQ [_] ?_
   go_upto_region 10 with fail
   refine pR [.pointer (some ⟨b1, 0, none⟩)] ?_
   refine Wl.ld (k1.cell 0 (.int .i64 x.t) (by kernel_rfl)) underlying3 ?_
   refine ieF .i64 x.t 4 ?_
   refine pP [_, .pointer (some ⟨b1, 0, none⟩)] ?_
   refine Wl.ld (k1.cell 0 (.int .i64 x.t) (by kernel_rfl)) underlying3 ?_
   refine ieF .i64 x.t 10 ?_
   refine pQ [.bool false, _] ?_
   go_upto_region 12 with fail
   refine pR [.pointer (some ⟨b1, 0, none⟩)] ?_
   refine Wl.ld (k1.cell 0 (.int .i64 x.t) (by kernel_rfl)) underlying3 ?_
   refine ieF .i64 x.t 5 ?_
   refine pQ [_] ?_
   go_upto_region 14 with fail
   refine pR [.pointer (some ⟨b1, 0, none⟩)] ?_
   refine Wl.ld (k1.cell 0 (.int .i64 x.t) (by kernel_rfl)) underlying3 ?_
   refine ieT .i64 x.t 9 ?_
   refine pQ [_] ?_
   go_upto_region 15 with fail
   refine wp_region_noPanic ?_
   have hSd15 := hsc.drew
   have hzd15 := hSd15.size
   have hze15 : (wc).drew.heap.size = (wc).heap.size := rfl
   refine wp_region_held_drew (S := fun w' => Below (b2) wc w') (by kernel_rfl) hSd15 (fun _ => ?_)
   replace k1 := k1.grow (below_drew1 _)
   replace k2 := k2.grow (below_drew1 _)
   replace kg := kg.grow (below_drew1 _)
   refine tk 0 (.pointer (some ⟨b1, 16, none⟩)) rfl yR hSd15 ?_
   refine tk 1 (.slice A16 x.proto.length c16) rfl (yL underlying22 (fun w1 h => (K1.out.bel h l2).cell 16 _ rfl)) hSd15 ?_
   refine tk 2 (.pointer (some ⟨b1, 17, none⟩)) rfl yR hSd15 ?_
   refine tk 3 (.slice A17 x.ver.length c17) rfl (yL underlying22 (fun w1 h => (K1.out.bel h l2).cell 17 _ rfl)) hSd15 ?_
   refine tk 4 (.pointer (some ⟨b1, 18, none⟩)) rfl yR hSd15 ?_
   refine tk 5 (.slice A18 x.tr.length c18) rfl (yL underlying22 (fun w1 h => (K1.out.bel h l2).cell 18 _ rfl)) hSd15 ?_
   refine tk 6 (.pointer (some ⟨b1, 19, none⟩)) rfl yR hSd15 ?_
   refine tk 7 (.slice A19 x.host.length c19) rfl (yL underlying22 (fun w1 h => (K1.out.bel h l2).cell 19 _ rfl)) hSd15 ?_
   refine tk 8 (.pointer (some ⟨b1, 20, none⟩)) rfl yR hSd15 ?_
   refine tk 9 (.int .i64 x.port) rfl (yL underlying3 (fun w1 h => (K1.out.bel h l2).cell 20 _ rfl)) hSd15 ?_
   refine tk 10 (.pointer (some ⟨b1, 14, none⟩)) rfl yR hSd15 ?_
   refine tk 11 (.slice A14 x.ps.length c14) rfl (yL underlying23 (fun w1 h => (K1.out.bel h l2).cell 14 _ rfl)) hSd15 ?_
   refine tk 12 (.pointer (some ⟨g, 16, none⟩)) rfl yR hSd15 ?_
   refine rd 13 rfl (fun K hK => ?_)
   refine sA 22 g 16 [.slice A16 x.proto.length c16] #[.int .i64 x.t, .slice An ln cn, .slice none 0 0, .slice none 0 0, .slice none 0 0, .slice none 0 0, .bool false, .bool false, .slice none 0 0, .slice none 0 0, .slice none 0 0, .int .i64 0, .slice none 0 0, .slice none 0 0, .slice none 0 0, .int .u32 0, .slice A16 x.proto.length c16, .slice none 0 0, .slice none 0 0, .slice none 0 0, .int .i64 0] 34 kg ?_
   intro w11 kg' hO11
   replace k1 := k1.oth hO11 (by omega)
   replace k2 := k2.oth hO11 (by omega)
   have hS11 := hSd15.trans (hO11.below (by omega))
   have hz11 := hS11.size
   clear kg
   have kg := kg'
   clear kg'
   have hzz11 := hO11.size
   replace hO11 := Lib.hid hO11
   refine sh hK hS11 ?_
   clear hK K
   refine tk 14 (.pointer (some ⟨g, 17, none⟩)) rfl yR hS11 ?_
   refine rd 15 rfl (fun K hK => ?_)
   refine sA 22 g 17 [.slice A17 x.ver.length c17] #[.int .i64 x.t, .slice An ln cn, .slice none 0 0, .slice none 0 0, .slice none 0 0, .slice none 0 0, .bool false, .bool false, .slice none 0 0, .slice none 0 0, .slice none 0 0, .int .i64 0, .slice none 0 0, .slice none 0 0, .slice none 0 0, .int .u32 0, .slice A16 x.proto.length c16, .slice A17 x.ver.length c17, .slice none 0 0, .slice none 0 0, .int .i64 0] 34 kg ?_
   intro w12 kg' hO12
   replace k1 := k1.oth hO12 (by omega)
   replace k2 := k2.oth hO12 (by omega)
   have hS12 := hS11.trans (hO12.below (by omega))
   have hz12 := hS12.size
   clear kg
   have kg := kg'
   clear kg'
   have hzz12 := hO12.size
   replace hO12 := Lib.hid hO12
   refine sh hK hS12 ?_
   clear hK K
   refine tk 16 (.pointer (some ⟨g, 18, none⟩)) rfl yR hS12 ?_
   refine rd 17 rfl (fun K hK => ?_)
   refine sA 22 g 18 [.slice A18 x.tr.length c18] #[.int .i64 x.t, .slice An ln cn, .slice none 0 0, .slice none 0 0, .slice none 0 0, .slice none 0 0, .bool false, .bool false, .slice none 0 0, .slice none 0 0, .slice none 0 0, .int .i64 0, .slice none 0 0, .slice none 0 0, .slice none 0 0, .int .u32 0, .slice A16 x.proto.length c16, .slice A17 x.ver.length c17, .slice A18 x.tr.length c18, .slice none 0 0, .int .i64 0] 34 kg ?_
   intro w13 kg' hO13
   replace k1 := k1.oth hO13 (by omega)
   replace k2 := k2.oth hO13 (by omega)
   have hS13 := hS12.trans (hO13.below (by omega))
   have hz13 := hS13.size
   clear kg
   have kg := kg'
   clear kg'
   have hzz13 := hO13.size
   replace hO13 := Lib.hid hO13
   refine sh hK hS13 ?_
   clear hK K
   refine tk 18 (.pointer (some ⟨g, 19, none⟩)) rfl yR hS13 ?_
   refine rd 19 rfl (fun K hK => ?_)
   refine sA 22 g 19 [.slice A19 x.host.length c19] #[.int .i64 x.t, .slice An ln cn, .slice none 0 0, .slice none 0 0, .slice none 0 0, .slice none 0 0, .bool false, .bool false, .slice none 0 0, .slice none 0 0, .slice none 0 0, .int .i64 0, .slice none 0 0, .slice none 0 0, .slice none 0 0, .int .u32 0, .slice A16 x.proto.length c16, .slice A17 x.ver.length c17, .slice A18 x.tr.length c18, .slice A19 x.host.length c19, .int .i64 0] 34 kg ?_
   intro w14 kg' hO14
   replace k1 := k1.oth hO14 (by omega)
   replace k2 := k2.oth hO14 (by omega)
   have hS14 := hS13.trans (hO14.below (by omega))
   have hz14 := hS14.size
   clear kg
   have kg := kg'
   clear kg'
   have hzz14 := hO14.size
   replace hO14 := Lib.hid hO14
   refine sh hK hS14 ?_
   clear hK K
   refine tk 20 (.pointer (some ⟨g, 20, none⟩)) rfl yR hS14 ?_
   refine rd 21 rfl (fun K hK => ?_)
   refine sA 3 g 20 [.int .i64 x.port] #[.int .i64 x.t, .slice An ln cn, .slice none 0 0, .slice none 0 0, .slice none 0 0, .slice none 0 0, .bool false, .bool false, .slice none 0 0, .slice none 0 0, .slice none 0 0, .int .i64 0, .slice none 0 0, .slice none 0 0, .slice none 0 0, .int .u32 0, .slice A16 x.proto.length c16, .slice A17 x.ver.length c17, .slice A18 x.tr.length c18, .slice A19 x.host.length c19, .int .i64 x.port] 34 kg ?_
   intro w15 kg' hO15
   replace k1 := k1.oth hO15 (by omega)
   replace k2 := k2.oth hO15 (by omega)
   have hS15 := hS14.trans (hO15.below (by omega))
   have hz15 := hS15.size
   clear kg
   have kg := kg'
   clear kg'
   have hzz15 := hO15.size
   replace hO15 := Lib.hid hO15
   refine sh hK hS15 ?_
   clear hK K
   refine tk 22 (.pointer (some ⟨g, 14, none⟩)) rfl yR hS15 ?_
   refine rd 23 rfl (fun K hK => ?_)
   refine sA 23 g 14 [.slice A14 x.ps.length c14] #[.int .i64 x.t, .slice An ln cn, .slice none 0 0, .slice none 0 0, .slice none 0 0, .slice none 0 0, .bool false, .bool false, .slice none 0 0, .slice none 0 0, .slice none 0 0, .int .i64 0, .slice none 0 0, .slice none 0 0, .slice A14 x.ps.length c14, .int .u32 0, .slice A16 x.proto.length c16, .slice A17 x.ver.length c17, .slice A18 x.tr.length c18, .slice A19 x.host.length c19, .int .i64 x.port] 34 kg ?_
   intro w16 kg' hO16
   replace k1 := k1.oth hO16 (by omega)
   replace k2 := k2.oth hO16 (by omega)
   have hS16 := hS15.trans (hO16.below (by omega))
   have hz16 := hS16.size
   clear kg
   have kg := kg'
   clear kg'
   have hzz16 := hO16.size
   replace hO16 := Lib.hid hO16
   refine sh hK hS16 ?_
   clear hK K
   refine wpAnyH_done (by kernel_rfl) ?_ _
   refine NoPanic.normal ?_
   go_upto_region 16 with fail
   apply wR
   refine Wl.la (#[.int .i64 x.t, .slice An ln cn, .slice none 0 0, .slice none 0 0, .slice none 0 0, .slice none 0 0, .bool false, .bool false, .slice none 0 0, .slice none 0 0, .slice none 0 0, .int .i64 0, .slice none 0 0, .slice none 0 0, .slice A14 x.ps.length c14, .int .u32 0, .slice A16 x.proto.length c16, .slice A17 x.ver.length c17, .slice A18 x.tr.length c18, .slice A19 x.host.length c19, .int .i64 x.port]) (kg.sub 0 _ (by kernel_rfl)) underlying34 ?_
   refine cB 34 b2 0 [.int .i64 x.t, .slice An ln cn, .slice none 0 0, .slice none 0 0, .slice none 0 0, .slice none 0 0, .bool false, .bool false, .slice none 0 0, .slice none 0 0, .slice none 0 0, .int .i64 0, .slice none 0 0, .slice none 0 0, .slice A14 x.ps.length c14, .int .u32 0, .slice A16 x.proto.length c16, .slice A17 x.ver.length c17, .slice A18 x.tr.length c18, .slice A19 x.host.length c19, .int .i64 x.port] 34 k2 ?_
   intro w17 k2' hO17
   replace k1 := k1.oth hO17 (by omega)
   replace kg := kg.oth hO17 (by omega)
   have hS17 := hS16.trans (hO17.below (by omega))
   have hz17 := hS17.size
   clear k2
   have k2 := k2'
   clear k2'
   have hzz17 := hO17.size
   replace hO17 := Lib.hid hO17
   refine wN ?_
   go_wp2
   have HB := hb.trans (hS17.mono (by omega))
   refine bodyPost_ret (results_cell_row rfl _ _ _ _ _ _ _ rfl k2 underlying34 rfl (by kernel_rfl)) rfl ⟨_, rfl, fun z hz => ?_, HB⟩
   have HZ := HH.out z (Ax.of HB hz)
   rw [HP.out]
   exact HdR.mk21 (x := { (default : Hd) with t := x.t, name := nameL x.t, proto := x.proto, ver := x.ver, tr := x.tr, host := x.host, port := x.port, ps := x.ps }) ((HNM.out.grow (below_drew1 _)) z ((Ax.oth hO11.out (.inr (.inr rfl)) (Ax.oth hO12.out (.inr (.inr rfl)) (Ax.oth hO13.out (.inr (.inr rfl)) (Ax.oth hO14.out (.inr (.inr rfl)) (Ax.oth hO15.out (.inr (.inr rfl)) (Ax.oth hO16.out (.inr (.inr rfl)) (Ax.oth hO17.out (.inr (.inl rfl)) (hz.mono fun _ h => .inl h)))))))))) (bs_nil z) (bs_nil z) (ur0_R z) (by obtain ⟨v, e, r⟩ := HZ.ps; cases e; exact r) (by obtain ⟨v, e, r⟩ := HZ.proto; cases e; exact r) (by obtain ⟨v, e, r⟩ := HZ.ver; cases e; exact r) (by obtain ⟨v, e, r⟩ := HZ.tr; cases e; exact r) (by obtain ⟨v, e, r⟩ := HZ.host; cases e; exact r) HZ.tLo HZ.tHi (by show (0 : Int) ≤ 0; decide) (by show (0 : Int) ≤ 4294967295; decide) HZ.portLo HZ.portHi
  have HP : Hid (plainH x = { (default : Hd) with t := x.t, name := nameL x.t }) := by unfold Hid plainH; rw [if_neg h0, if_neg (by rw [hA]; decide), if_neg (by rw [hR]; decide), if_neg (by rw [hN]; decide), if_neg (by omega), if_neg (by omega), if_neg (by omega)]
  go_upto_region 2 with fail
  refine pR [.pointer (some ⟨b1, 0, none⟩)] ?_
  refine Wl.ld (k1.cell 0 (.int .i64 x.t) (by kernel_rfl)) underlying3 ?_
  refine ieF .i64 x.t 0 ?_
  refine pQ [_] ?_
  go_upto_region 4 with fail
  refine pR [.pointer (some ⟨b1, 0, none⟩)] ?_
  refine Wl.ld (k1.cell 0 (.int .i64 x.t) (by kernel_rfl)) underlying3 ?_
  refine cC func42 #[.int .i64 x.t] (isAddr_at x.t false hA _) ?_
  rintro e _ ⟨rfl, rfl⟩
  refine cR ?_
  refine pQ [_] ?_
  go_upto_region 6 with fail
  refine pR [.pointer (some ⟨b1, 0, none⟩)] ?_
  refine Wl.ld (k1.cell 0 (.int .i64 x.t) (by kernel_rfl)) underlying3 ?_
  refine cC func44 #[.int .i64 x.t] (isRout_at x.t false hR _) ?_
  rintro e _ ⟨rfl, rfl⟩
  refine cR ?_
  refine pQ [_] ?_
  go_upto_region 8 with fail
  refine pR [.pointer (some ⟨b1, 0, none⟩)] ?_
  refine Wl.ld (k1.cell 0 (.int .i64 x.t) (by kernel_rfl)) underlying3 ?_
  refine cC func45 #[.int .i64 x.t] (isNumb_at x.t false hN _) ?_
  rintro e _ ⟨rfl, rfl⟩
  refine cR ?_
  refine pQ [_] ?_
  go_upto_region 10 with fail
  refine pR [.pointer (some ⟨b1, 0, none⟩)] ?_
  refine Wl.ld (k1.cell 0 (.int .i64 x.t) (by kernel_rfl)) underlying3 ?_
  refine ieF .i64 x.t 4 ?_
  refine pP [_, .pointer (some ⟨b1, 0, none⟩)] ?_
  refine Wl.ld (k1.cell 0 (.int .i64 x.t) (by kernel_rfl)) underlying3 ?_
  refine ieF .i64 x.t 10 ?_
  refine pQ [.bool false, _] ?_
  go_upto_region 12 with fail
  refine pR [.pointer (some ⟨b1, 0, none⟩)] ?_
  refine Wl.ld (k1.cell 0 (.int .i64 x.t) (by kernel_rfl)) underlying3 ?_
  refine ieF .i64 x.t 5 ?_
  refine pQ [_] ?_
  go_upto_region 14 with fail
  refine pR [.pointer (some ⟨b1, 0, none⟩)] ?_
  refine Wl.ld (k1.cell 0 (.int .i64 x.t) (by kernel_rfl)) underlying3 ?_
  refine ieF .i64 x.t 9 ?_
  refine pQ [_] ?_
  go_upto_region 16 with fail
  apply wR
  refine Wl.la (#[.int .i64 x.t, .slice An ln cn, .slice none 0 0, .slice none 0 0, .slice none 0 0, .slice none 0 0, .bool false, .bool false, .slice none 0 0, .slice none 0 0, .slice none 0 0, .int .i64 0, .slice none 0 0, .slice none 0 0, .slice none 0 0, .int .u32 0, .slice none 0 0, .slice none 0 0, .slice none 0 0, .slice none 0 0, .int .i64 0]) (kg.sub 0 _ (by kernel_rfl)) underlying34 ?_
  refine cB 34 b2 0 [.int .i64 x.t, .slice An ln cn, .slice none 0 0, .slice none 0 0, .slice none 0 0, .slice none 0 0, .bool false, .bool false, .slice none 0 0, .slice none 0 0, .slice none 0 0, .int .i64 0, .slice none 0 0, .slice none 0 0, .slice none 0 0, .int .u32 0, .slice none 0 0, .slice none 0 0, .slice none 0 0, .slice none 0 0, .int .i64 0] 34 k2 ?_
  intro w11 k2' hO11
  replace k1 := k1.oth hO11 (by omega)
  replace kg := kg.oth hO11 (by omega)
  have hS11 := hsc.trans (hO11.below (by omega))
  have hz11 := hS11.size
  clear k2
  have k2 := k2'
  clear k2'
  have hzz11 := hO11.size
  replace hO11 := Lib.hid hO11
  refine wN ?_
  go_wp2
  have HB := hb.trans (hS11.mono (by omega))
  refine bodyPost_ret (results_cell_row rfl _ _ _ _ _ _ _ rfl k2 underlying34 rfl (by kernel_rfl)) rfl ⟨_, rfl, fun z hz => ?_, HB⟩
  have HZ := HH.out z (Ax.of HB hz)
  rw [HP.out]
  exact HdR.mk21 (x := { (default : Hd) with t := x.t, name := nameL x.t }) (HNM.out z ((Ax.oth hO11.out (.inr (.inl rfl)) (hz.mono fun _ h => .inl h)))) (bs_nil z) (bs_nil z) (ur0_R z) (kvs_nil z) (bs_nil z) (bs_nil z) (bs_nil z) (bs_nil z) HZ.tLo HZ.tHi (by show (0 : Int) ≤ 0; decide) (by show (0 : Int) ≤ 4294967295; decide) (by show (-9223372036854775808 : Int) ≤ 0; decide) (by show (0 : Int) ≤ 9223372036854775807; decide)
end Go.Proofs.YtfcllhdhfenmcaaGreatDoor
