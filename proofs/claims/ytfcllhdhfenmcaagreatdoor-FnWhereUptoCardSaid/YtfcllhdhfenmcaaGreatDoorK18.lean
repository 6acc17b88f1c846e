/- Part 18 of the proof: laws and walks (merged by a program). -/
import Derived.Test.YtfcllhdhfenmcaaGreatDoorK01
import Derived.Test.YtfcllhdhfenmcaaGreatDoorK17
set_option linter.all false
set_option maxHeartbeats 8000000
set_option maxRecDepth 100000
namespace Go.Proofs.YtfcllhdhfenmcaaGreatDoor
open Go.RowKit Go.Proofs.Tryz
def Ro (base : Nat) (w : World) (v : Value) (vals : List Value) : Prop := w.ownsRow base 81 1 v vals.length vals
theorem Ro.oth {base b : Nat} {w W : World} {v : Value} {vals : List Value} (h : Ro base w v vals) (hne : ∀ g, v.ownBlock = some g → g ≠ b) (ho : Oth b w W) : Ro base W v vals := by
 obtain ⟨hl, h | ⟨g, cap, cur, rfl, hb', hh, r⟩⟩ := h
 ·exact ⟨hl, .inl h⟩
 ·exact ⟨hl, .inr ⟨g, cap, cur, rfl, hb', (ho.block g (hne g rfl)).trans hh, r⟩⟩
theorem Ro.grow {base : Nat} {w W : World} {v : Value} {vals : List Value} (h : Ro base w v vals) (ho : Below w.heap.size w W) : Ro base W v vals := by
 obtain ⟨hl, h | ⟨g, cap, cur, rfl, hb', hh, r⟩⟩ := h
 ·exact ⟨hl, .inl h⟩
 ·exact ⟨hl, .inr ⟨g, cap, cur, rfl, hb', (ho.block g (Array.getElem?_eq_some_iff.1 hh).1).trans hh, r⟩⟩
theorem Ro.shape {base : Nat} {w : World} {v : Value} {vals : List Value} (h : Ro base w v vals) : ∃ A n c, v = .slice A n c := by
 obtain ⟨_, ⟨rfl, _⟩ | ⟨g, cap, cur, rfl, _⟩⟩ := h
 ·exact ⟨_, _, _, rfl⟩
 ·exact ⟨_, _, _, rfl⟩
theorem Ro.ne {base b : Nat} {w : World} {v : Value} {vals : List Value} {C : Array Value} {T : TypeId} (h : Ro base w v vals) (hb : Blk w b C T) (hT : T ≠ 81) : ∀ g, v.ownBlock = some g → g ≠ b := by
 intro g hg e
 obtain ⟨_, ⟨rfl, _⟩ | ⟨g', cap, cur, rfl, _, hh, _⟩⟩ := h
 ·simp [Value.ownBlock] at hg
 ·have : g' = g := by simpa [Value.ownBlock] using hg
  subst this; subst e
  have := hb.symm.trans hh
  injection this with this
  injection this with _ this _
  exact hT this
theorem Oth.trans {b : Nat} {w w1 w2 : World} (h : Oth b w w1) (k : Oth b w1 w2) : Oth b w w2 := ⟨k.os.trans h.os, k.tape.trans h.tape, k.output.trans h.output, k.size.trans h.size, fun i hi => (k.block i hi).trans (h.block i hi)⟩
def App (base : Nat) (w : World) (b : Nat) (T : TypeId) (vals : List Value) (refs : Value → List Value) (rest : List Value) (e : Ending) (w' : World) : Prop :=
 e = .returned (.tuple #[]) ∧ ∃ ov, Blk w' b (refs ov ++ rest).toArray T ∧ Ro base w' ov vals ∧ Kt w w' ∧ Below base w w'
theorem App.mk' {base : Nat} {w w1 w2 w3 : World} {b : Nat} {T : TypeId} {vals : List Value} {refs : Value → List Value} {rest : List Value} {C : Array Value} {ov : Value} (hT : T = 111 ∨ T = 106) (hlo : base ≤ b)
 (h1 : Below w.heap.size w w1) (hk : Kh w1 w2) (hS : Below base w w2) (h0 : Blk w2 b C T) (hr : Ro base w2 ov vals) (hO : Oth b w2 w3) (hb : Blk w3 b (refs ov ++ rest).toArray T) : App base w b T vals refs rest (.returned (.tuple #[])) w3 := by
 have hT' : T ≠ 81 := by rcases hT with rfl | rfl <;> decide
 exact ⟨rfl, ov, hb, hr.oth (hr.ne h0 hT') hO, ((Kt.of h1).trans hk.kt).trans (hO.kt h0 (by rcases hT with q | q; exact .inl q; exact .inr (.inl q))), hS.trans (hO.below hlo)⟩
theorem append_t0 (base : Nat) (w : World) (b bv : Nat) (T : TypeId) (c0 c1 c2 c3 c4 c5 c6 c7 c8 c9 c10 c11 c12 : Value) (rest vals : List Value) (h : Blk w b (([c0, c1, c2, c3, c4, c5, c6, c7, c8, c9, c10, c11, c12] : List Value) ++ rest).toArray T) (hT : T = 111 ∨ T = 106)
 (hr : Ro base w c0 vals) (hlo : base ≤ b) (hbase : base ≤ w.heap.size) (hlen : vals.length + 1 ≤ 4000000000000) :
 Calls Tryz.prog 175 #[.pointer (some ⟨b, 0, none⟩), .iface 159 (.pointer (some ⟨bv, 0, none⟩))] w (App base w b T (vals ++ [.iface 159 (.pointer (some ⟨bv, 0, none⟩))]) (fun ov => [ov, c1, c2, c3, c4, c5, c6, c7, c8, c9, c10, c11, c12]) rest) := by
 have HT := Lib.hid hT
 have hS0 := Below.refl base w
 have hTn : T ≠ 81 := by rcases hT with rfl | rfl <;> decide
 clear hT
 go_enter func175, ntmps175
 go_upto_region 0 with fail
 refine pR [_, _, .pointer (some ⟨b, 0, none⟩), .pointer (some ⟨b, 0, none⟩)] ?_
 refine Wl.ld (h.cell 0 (c0) (by kernel_rfl)) underlying89 ?_
 refine pP [_] ?_
 refine Wl.step (fun K hK => ?_)
 refine step_new rfl (fun b => .slice (some ⟨b, 0, none⟩) 1 1) (#[.iface 159 (.pointer (some ⟨bv, 0, none⟩))]) 81 (by kernel_rfl) ?_
 intro bl w1 bl_ge bl_lt hl hb1
 obtain ⟨hS1, hz1, hy1⟩ := zC hS0 hb1
 replace h := h.grow hb1
 refine hK _ _ ?_
 clear hK K
 (try simp only [Act.put, zD, zE, zF])
 refine Wl.step (fun K hK => ?_)
 refine step_append_hdr rfl _ _ rfl base c0 (.iface 159 (.pointer (some ⟨bv, 0, none⟩))) vals bl 1 (by kernel_rfl) (by kernel_rfl) hl rfl (hr.grow hb1) (by omega) hlen ?_
 intro ov w2 hro hkh hbl
 obtain ⟨Ao, no, co, rfl⟩ := Ro.shape hro
 have hS2 := hS1.trans hbl
 have h0 := h.kh hkh hTn
 clear h
 have h := h0
 have hy2 := hbl.size
 clear hl
 refine hK _ _ ?_
 clear hK K
 (try simp only [Act.put, zD, zE, zF])
 refine pP [.pointer (some ⟨b, 0, none⟩), .pointer (some ⟨b, 0, none⟩)] ?_
 refine cA 89 b 0 [.slice Ao no co] (([.slice Ao no co, c1, c2, c3, c4, c5, c6, c7, c8, c9, c10, c11, c12] : List Value) ++ rest).toArray T h ?_
 intro w3 h' hO3
 have hS3 := hS2.trans (hO3.below (by omega))
 have hz3 := hS3.size
 clear h
 have h := h'
 clear h'
 have hzz3 := hO3.size
 replace hO3 := Lib.hid hO3
 refine wN ?_
 go_upto_region 1 with fail
 refine pS [_] ?_
 go_upto_region 4 with fail
 refine pS [.tuple #[.pointer none, .bool false], .bool false, .pointer none] ?_
 go_upto_region 8 with fail
 refine pS [.tuple #[.pointer none, .bool false], .bool false, .pointer none] ?_
 go_upto_region 12 with fail
 refine pS [.tuple #[.pointer none, .bool false], .bool false, .pointer none] ?_
 go_upto_region 2 with fail
 refine pS [_] ?_
 go_upto_region 3 with fail
 refine pR [_, _] ?_
 refine cC func206 #[.pointer (some ⟨b, 0, none⟩), .iface 159 (.pointer (some ⟨bv, 0, none⟩))] (setRef_t0 _ b bv T (.slice Ao no co) c1 c2 c3 c4 c5 c6 c7 c8 c9 c10 c11 c12 rest h) ?_
 rintro e w4 ⟨rfl, h4, hO4⟩
 refine cR ?_
 have hS4 := hS3.trans (hO4.below hlo)
 refine wN ?_
 go_wp2
 go_end0
 exact App.mk' (refs := fun ov => [ov, c1, c2, c3, c4, c5, c6, c7, c8, c9, c10, c11, c12]) HT.out hlo hb1 hkh hS2 h0 hro (hO3.out.trans hO4) h4
theorem append_t1 (base : Nat) (w : World) (b bv : Nat) (T : TypeId) (c0 c1 c2 c3 c4 c5 c6 c7 c8 c9 c10 c11 c12 : Value) (rest vals : List Value) (h : Blk w b (([c0, c1, c2, c3, c4, c5, c6, c7, c8, c9, c10, c11, c12] : List Value) ++ rest).toArray T) (hT : T = 111 ∨ T = 106)
 (hr : Ro base w c0 vals) (hlo : base ≤ b) (hbase : base ≤ w.heap.size) (hlen : vals.length + 1 ≤ 4000000000000) :
 Calls Tryz.prog 175 #[.pointer (some ⟨b, 0, none⟩), .iface 92 (.pointer (some ⟨bv, 0, none⟩))] w (App base w b T (vals ++ [.iface 92 (.pointer (some ⟨bv, 0, none⟩))]) (fun ov => [ov, c1, c2, .pointer (some ⟨bv, 0, none⟩), c4, c5, c6, c7, c8, c9, c10, c11, c12]) rest) := by
 have HT := Lib.hid hT
 have hS0 := Below.refl base w
 have hTn : T ≠ 81 := by rcases hT with rfl | rfl <;> decide
 clear hT
 go_enter func175, ntmps175
 go_upto_region 0 with fail
 refine pR [_, _, .pointer (some ⟨b, 0, none⟩), .pointer (some ⟨b, 0, none⟩)] ?_
 refine Wl.ld (h.cell 0 (c0) (by kernel_rfl)) underlying89 ?_
 refine pP [_] ?_
 refine Wl.step (fun K hK => ?_)
 refine step_new rfl (fun b => .slice (some ⟨b, 0, none⟩) 1 1) (#[.iface 92 (.pointer (some ⟨bv, 0, none⟩))]) 81 (by kernel_rfl) ?_
 intro bl w1 bl_ge bl_lt hl hb1
 obtain ⟨hS1, hz1, hy1⟩ := zC hS0 hb1
 replace h := h.grow hb1
 refine hK _ _ ?_
 clear hK K
 (try simp only [Act.put, zD, zE, zF])
 refine Wl.step (fun K hK => ?_)
 refine step_append_hdr rfl _ _ rfl base c0 (.iface 92 (.pointer (some ⟨bv, 0, none⟩))) vals bl 1 (by kernel_rfl) (by kernel_rfl) hl rfl (hr.grow hb1) (by omega) hlen ?_
 intro ov w2 hro hkh hbl
 obtain ⟨Ao, no, co, rfl⟩ := Ro.shape hro
 have hS2 := hS1.trans hbl
 have h0 := h.kh hkh hTn
 clear h
 have h := h0
 have hy2 := hbl.size
 clear hl
 refine hK _ _ ?_
 clear hK K
 (try simp only [Act.put, zD, zE, zF])
 refine pP [.pointer (some ⟨b, 0, none⟩), .pointer (some ⟨b, 0, none⟩)] ?_
 refine cA 89 b 0 [.slice Ao no co] (([.slice Ao no co, c1, c2, c3, c4, c5, c6, c7, c8, c9, c10, c11, c12] : List Value) ++ rest).toArray T h ?_
 intro w3 h' hO3
 have hS3 := hS2.trans (hO3.below (by omega))
 have hz3 := hS3.size
 clear h
 have h := h'
 clear h'
 have hzz3 := hO3.size
 replace hO3 := Lib.hid hO3
 refine wN ?_
 go_upto_region 1 with fail
 refine pS [_] ?_
 go_upto_region 4 with fail
 refine pS [.tuple #[.pointer none, .bool false], .bool false, .pointer none] ?_
 go_upto_region 8 with fail
 refine pS [.tuple #[.pointer none, .bool false], .bool false, .pointer none] ?_
 go_upto_region 12 with fail
 refine pS [.tuple #[.pointer none, .bool false], .bool false, .pointer none] ?_
 go_upto_region 2 with fail
 refine pS [_] ?_
 go_upto_region 3 with fail
 refine pR [_, _] ?_
 refine cC func206 #[.pointer (some ⟨b, 0, none⟩), .iface 92 (.pointer (some ⟨bv, 0, none⟩))] (setRef_t1 _ b bv T (.slice Ao no co) c1 c2 c3 c4 c5 c6 c7 c8 c9 c10 c11 c12 rest h) ?_
 rintro e w4 ⟨rfl, h4, hO4⟩
 refine cR ?_
 have hS4 := hS3.trans (hO4.below hlo)
 refine wN ?_
 go_wp2
 go_end0
 exact App.mk' (refs := fun ov => [ov, c1, c2, .pointer (some ⟨bv, 0, none⟩), c4, c5, c6, c7, c8, c9, c10, c11, c12]) HT.out hlo hb1 hkh hS2 h0 hro (hO3.out.trans hO4) h4
theorem append_t2 (base : Nat) (w : World) (b bv : Nat) (T : TypeId) (c0 c1 c2 c3 c4 c5 c6 c7 c8 c9 c10 c11 c12 : Value) (rest vals : List Value) (h : Blk w b (([c0, c1, c2, c3, c4, c5, c6, c7, c8, c9, c10, c11, c12] : List Value) ++ rest).toArray T) (hT : T = 111 ∨ T = 106)
 (hr : Ro base w c0 vals) (hlo : base ≤ b) (hbase : base ≤ w.heap.size) (hlen : vals.length + 1 ≤ 4000000000000) :
 Calls Tryz.prog 175 #[.pointer (some ⟨b, 0, none⟩), .iface 91 (.pointer (some ⟨bv, 0, none⟩))] w (App base w b T (vals ++ [.iface 91 (.pointer (some ⟨bv, 0, none⟩))]) (fun ov => [ov, c1, .pointer (some ⟨bv, 0, none⟩), c3, c4, c5, c6, c7, c8, c9, c10, c11, c12]) rest) := by
 have HT := Lib.hid hT
 have hS0 := Below.refl base w
 have hTn : T ≠ 81 := by rcases hT with rfl | rfl <;> decide
 clear hT
 go_enter func175, ntmps175
 go_upto_region 0 with fail
 refine pR [_, _, .pointer (some ⟨b, 0, none⟩), .pointer (some ⟨b, 0, none⟩)] ?_
 refine Wl.ld (h.cell 0 (c0) (by kernel_rfl)) underlying89 ?_
 refine pP [_] ?_
 refine Wl.step (fun K hK => ?_)
 refine step_new rfl (fun b => .slice (some ⟨b, 0, none⟩) 1 1) (#[.iface 91 (.pointer (some ⟨bv, 0, none⟩))]) 81 (by kernel_rfl) ?_
 intro bl w1 bl_ge bl_lt hl hb1
 obtain ⟨hS1, hz1, hy1⟩ := zC hS0 hb1
 replace h := h.grow hb1
 refine hK _ _ ?_
 clear hK K
 (try simp only [Act.put, zD, zE, zF])
 refine Wl.step (fun K hK => ?_)
 refine step_append_hdr rfl _ _ rfl base c0 (.iface 91 (.pointer (some ⟨bv, 0, none⟩))) vals bl 1 (by kernel_rfl) (by kernel_rfl) hl rfl (hr.grow hb1) (by omega) hlen ?_
 intro ov w2 hro hkh hbl
 obtain ⟨Ao, no, co, rfl⟩ := Ro.shape hro
 have hS2 := hS1.trans hbl
 have h0 := h.kh hkh hTn
 clear h
 have h := h0
 have hy2 := hbl.size
 clear hl
 refine hK _ _ ?_
 clear hK K
 (try simp only [Act.put, zD, zE, zF])
 refine pP [.pointer (some ⟨b, 0, none⟩), .pointer (some ⟨b, 0, none⟩)] ?_
 refine cA 89 b 0 [.slice Ao no co] (([.slice Ao no co, c1, c2, c3, c4, c5, c6, c7, c8, c9, c10, c11, c12] : List Value) ++ rest).toArray T h ?_
 intro w3 h' hO3
 have hS3 := hS2.trans (hO3.below (by omega))
 have hz3 := hS3.size
 clear h
 have h := h'
 clear h'
 have hzz3 := hO3.size
 replace hO3 := Lib.hid hO3
 refine wN ?_
 go_upto_region 1 with fail
 refine pS [_] ?_
 go_upto_region 4 with fail
 refine pS [.tuple #[.pointer none, .bool false], .bool false, .pointer none] ?_
 go_upto_region 8 with fail
 refine pS [.tuple #[.pointer none, .bool false], .bool false, .pointer none] ?_
 go_upto_region 12 with fail
 refine pS [.tuple #[.pointer none, .bool false], .bool false, .pointer none] ?_
 go_upto_region 2 with fail
 refine pS [_] ?_
 go_upto_region 3 with fail
 refine pR [_, _] ?_
 refine cC func206 #[.pointer (some ⟨b, 0, none⟩), .iface 91 (.pointer (some ⟨bv, 0, none⟩))] (setRef_t2 _ b bv T (.slice Ao no co) c1 c2 c3 c4 c5 c6 c7 c8 c9 c10 c11 c12 rest h) ?_
 rintro e w4 ⟨rfl, h4, hO4⟩
 refine cR ?_
 have hS4 := hS3.trans (hO4.below hlo)
 refine wN ?_
 go_wp2
 go_end0
 exact App.mk' (refs := fun ov => [ov, c1, .pointer (some ⟨bv, 0, none⟩), c3, c4, c5, c6, c7, c8, c9, c10, c11, c12]) HT.out hlo hb1 hkh hS2 h0 hro (hO3.out.trans hO4) h4
theorem append_t3 (base : Nat) (w : World) (b bv : Nat) (T : TypeId) (c0 c1 c2 c3 c4 c5 c6 c7 c8 c9 c10 c11 c12 : Value) (rest vals : List Value) (h : Blk w b (([c0, c1, c2, c3, c4, c5, c6, c7, c8, c9, c10, c11, c12] : List Value) ++ rest).toArray T) (hT : T = 111 ∨ T = 106)
 (hr : Ro base w c0 vals) (hlo : base ≤ b) (hbase : base ≤ w.heap.size) (hlen : vals.length + 1 ≤ 4000000000000) :
 Calls Tryz.prog 175 #[.pointer (some ⟨b, 0, none⟩), .iface 94 (.pointer (some ⟨bv, 0, none⟩))] w (App base w b T (vals ++ [.iface 94 (.pointer (some ⟨bv, 0, none⟩))]) (fun ov => [ov, c1, c2, c3, c4, .pointer (some ⟨bv, 0, none⟩), c6, c7, c8, c9, c10, c11, c12]) rest) := by
 have HT := Lib.hid hT
 have hS0 := Below.refl base w
 have hTn : T ≠ 81 := by rcases hT with rfl | rfl <;> decide
 clear hT
 go_enter func175, ntmps175
 go_upto_region 0 with fail
 refine pR [_, _, .pointer (some ⟨b, 0, none⟩), .pointer (some ⟨b, 0, none⟩)] ?_
 refine Wl.ld (h.cell 0 (c0) (by kernel_rfl)) underlying89 ?_
 refine pP [_] ?_
 refine Wl.step (fun K hK => ?_)
 refine step_new rfl (fun b => .slice (some ⟨b, 0, none⟩) 1 1) (#[.iface 94 (.pointer (some ⟨bv, 0, none⟩))]) 81 (by kernel_rfl) ?_
 intro bl w1 bl_ge bl_lt hl hb1
 obtain ⟨hS1, hz1, hy1⟩ := zC hS0 hb1
 replace h := h.grow hb1
 refine hK _ _ ?_
 clear hK K
 (try simp only [Act.put, zD, zE, zF])
 refine Wl.step (fun K hK => ?_)
 refine step_append_hdr rfl _ _ rfl base c0 (.iface 94 (.pointer (some ⟨bv, 0, none⟩))) vals bl 1 (by kernel_rfl) (by kernel_rfl) hl rfl (hr.grow hb1) (by omega) hlen ?_
 intro ov w2 hro hkh hbl
 obtain ⟨Ao, no, co, rfl⟩ := Ro.shape hro
 have hS2 := hS1.trans hbl
 have h0 := h.kh hkh hTn
 clear h
 have h := h0
 have hy2 := hbl.size
 clear hl
 refine hK _ _ ?_
 clear hK K
 (try simp only [Act.put, zD, zE, zF])
 refine pP [.pointer (some ⟨b, 0, none⟩), .pointer (some ⟨b, 0, none⟩)] ?_
 refine cA 89 b 0 [.slice Ao no co] (([.slice Ao no co, c1, c2, c3, c4, c5, c6, c7, c8, c9, c10, c11, c12] : List Value) ++ rest).toArray T h ?_
 intro w3 h' hO3
 have hS3 := hS2.trans (hO3.below (by omega))
 have hz3 := hS3.size
 clear h
 have h := h'
 clear h'
 have hzz3 := hO3.size
 replace hO3 := Lib.hid hO3
 refine wN ?_
 go_upto_region 1 with fail
 refine pS [_] ?_
 go_upto_region 4 with fail
 refine pS [.tuple #[.pointer none, .bool false], .bool false, .pointer none] ?_
 go_upto_region 8 with fail
 refine pS [.tuple #[.pointer none, .bool false], .bool false, .pointer none] ?_
 go_upto_region 12 with fail
 refine pS [.tuple #[.pointer none, .bool false], .bool false, .pointer none] ?_
 go_upto_region 2 with fail
 refine pS [_] ?_
 go_upto_region 3 with fail
 refine pR [_, _] ?_
 refine cC func206 #[.pointer (some ⟨b, 0, none⟩), .iface 94 (.pointer (some ⟨bv, 0, none⟩))] (setRef_t3 _ b bv T (.slice Ao no co) c1 c2 c3 c4 c5 c6 c7 c8 c9 c10 c11 c12 rest h) ?_
 rintro e w4 ⟨rfl, h4, hO4⟩
 refine cR ?_
 have hS4 := hS3.trans (hO4.below hlo)
 refine wN ?_
 go_wp2
 go_end0
 exact App.mk' (refs := fun ov => [ov, c1, c2, c3, c4, .pointer (some ⟨bv, 0, none⟩), c6, c7, c8, c9, c10, c11, c12]) HT.out hlo hb1 hkh hS2 h0 hro (hO3.out.trans hO4) h4
theorem append_t4 (base : Nat) (w : World) (b bv : Nat) (T : TypeId) (c0 c1 c2 c3 c4 c5 c6 c7 c8 c9 c10 c11 c12 : Value) (rest vals : List Value) (h : Blk w b (([c0, c1, c2, c3, c4, c5, c6, c7, c8, c9, c10, c11, c12] : List Value) ++ rest).toArray T) (hT : T = 111 ∨ T = 106)
 (hr : Ro base w c0 vals) (hlo : base ≤ b) (hbase : base ≤ w.heap.size) (hlen : vals.length + 1 ≤ 4000000000000) :
 Calls Tryz.prog 175 #[.pointer (some ⟨b, 0, none⟩), .iface 93 (.pointer (some ⟨bv, 0, none⟩))] w (App base w b T (vals ++ [.iface 93 (.pointer (some ⟨bv, 0, none⟩))]) (fun ov => [ov, c1, c2, c3, .pointer (some ⟨bv, 0, none⟩), c5, c6, c7, c8, c9, c10, c11, c12]) rest) := by
 have HT := Lib.hid hT
 have hS0 := Below.refl base w
 have hTn : T ≠ 81 := by rcases hT with rfl | rfl <;> decide
 clear hT
 go_enter func175, ntmps175
 go_upto_region 0 with fail
 refine pR [_, _, .pointer (some ⟨b, 0, none⟩), .pointer (some ⟨b, 0, none⟩)] ?_
 refine Wl.ld (h.cell 0 (c0) (by kernel_rfl)) underlying89 ?_
 refine pP [_] ?_
 refine Wl.step (fun K hK => ?_)
 refine step_new rfl (fun b => .slice (some ⟨b, 0, none⟩) 1 1) (#[.iface 93 (.pointer (some ⟨bv, 0, none⟩))]) 81 (by kernel_rfl) ?_
 intro bl w1 bl_ge bl_lt hl hb1
 obtain ⟨hS1, hz1, hy1⟩ := zC hS0 hb1
 replace h := h.grow hb1
 refine hK _ _ ?_
 clear hK K
 (try simp only [Act.put, zD, zE, zF])
 refine Wl.step (fun K hK => ?_)
 refine step_append_hdr rfl _ _ rfl base c0 (.iface 93 (.pointer (some ⟨bv, 0, none⟩))) vals bl 1 (by kernel_rfl) (by kernel_rfl) hl rfl (hr.grow hb1) (by omega) hlen ?_
 intro ov w2 hro hkh hbl
 obtain ⟨Ao, no, co, rfl⟩ := Ro.shape hro
 have hS2 := hS1.trans hbl
 have h0 := h.kh hkh hTn
 clear h
 have h := h0
 have hy2 := hbl.size
 clear hl
 refine hK _ _ ?_
 clear hK K
 (try simp only [Act.put, zD, zE, zF])
 refine pP [.pointer (some ⟨b, 0, none⟩), .pointer (some ⟨b, 0, none⟩)] ?_
 refine cA 89 b 0 [.slice Ao no co] (([.slice Ao no co, c1, c2, c3, c4, c5, c6, c7, c8, c9, c10, c11, c12] : List Value) ++ rest).toArray T h ?_
 intro w3 h' hO3
 have hS3 := hS2.trans (hO3.below (by omega))
 have hz3 := hS3.size
 clear h
 have h := h'
 clear h'
 have hzz3 := hO3.size
 replace hO3 := Lib.hid hO3
 refine wN ?_
 go_upto_region 1 with fail
 refine pS [_] ?_
 go_upto_region 4 with fail
 refine pS [.tuple #[.pointer none, .bool false], .bool false, .pointer none] ?_
 go_upto_region 8 with fail
 refine pS [.tuple #[.pointer none, .bool false], .bool false, .pointer none] ?_
 go_upto_region 12 with fail
 refine pS [.tuple #[.pointer none, .bool false], .bool false, .pointer none] ?_
 go_upto_region 2 with fail
 refine pS [_] ?_
 go_upto_region 3 with fail
 refine pR [_, _] ?_
 refine cC func206 #[.pointer (some ⟨b, 0, none⟩), .iface 93 (.pointer (some ⟨bv, 0, none⟩))] (setRef_t4 _ b bv T (.slice Ao no co) c1 c2 c3 c4 c5 c6 c7 c8 c9 c10 c11 c12 rest h) ?_
 rintro e w4 ⟨rfl, h4, hO4⟩
 refine cR ?_
 have hS4 := hS3.trans (hO4.below hlo)
 refine wN ?_
 go_wp2
 go_end0
 exact App.mk' (refs := fun ov => [ov, c1, c2, c3, .pointer (some ⟨bv, 0, none⟩), c5, c6, c7, c8, c9, c10, c11, c12]) HT.out hlo hb1 hkh hS2 h0 hro (hO3.out.trans hO4) h4
theorem append_t5 (base : Nat) (w : World) (b bv : Nat) (T : TypeId) (c0 c1 c2 c3 c4 c5 c6 c7 c8 c9 c10 c11 c12 : Value) (rest vals : List Value) (h : Blk w b (([c0, c1, c2, c3, c4, c5, c6, c7, c8, c9, c10, c11, c12] : List Value) ++ rest).toArray T) (hT : T = 111 ∨ T = 106)
 (hr : Ro base w c0 vals) (hlo : base ≤ b) (hbase : base ≤ w.heap.size) (hlen : vals.length + 1 ≤ 4000000000000) :
 Calls Tryz.prog 175 #[.pointer (some ⟨b, 0, none⟩), .iface 95 (.pointer (some ⟨bv, 0, none⟩))] w (App base w b T (vals ++ [.iface 95 (.pointer (some ⟨bv, 0, none⟩))]) (fun ov => [ov, c1, c2, c3, c4, c5, .pointer (some ⟨bv, 0, none⟩), c7, c8, c9, c10, c11, c12]) rest) := by
 have HT := Lib.hid hT
 have hS0 := Below.refl base w
 have hTn : T ≠ 81 := by rcases hT with rfl | rfl <;> decide
 clear hT
 go_enter func175, ntmps175
 go_upto_region 0 with fail
 refine pR [_, _, .pointer (some ⟨b, 0, none⟩), .pointer (some ⟨b, 0, none⟩)] ?_
 refine Wl.ld (h.cell 0 (c0) (by kernel_rfl)) underlying89 ?_
 refine pP [_] ?_
 refine Wl.step (fun K hK => ?_)
 refine step_new rfl (fun b => .slice (some ⟨b, 0, none⟩) 1 1) (#[.iface 95 (.pointer (some ⟨bv, 0, none⟩))]) 81 (by kernel_rfl) ?_
 intro bl w1 bl_ge bl_lt hl hb1
 obtain ⟨hS1, hz1, hy1⟩ := zC hS0 hb1
 replace h := h.grow hb1
 refine hK _ _ ?_
 clear hK K
 (try simp only [Act.put, zD, zE, zF])
 refine Wl.step (fun K hK => ?_)
 refine step_append_hdr rfl _ _ rfl base c0 (.iface 95 (.pointer (some ⟨bv, 0, none⟩))) vals bl 1 (by kernel_rfl) (by kernel_rfl) hl rfl (hr.grow hb1) (by omega) hlen ?_
 intro ov w2 hro hkh hbl
 obtain ⟨Ao, no, co, rfl⟩ := Ro.shape hro
 have hS2 := hS1.trans hbl
 have h0 := h.kh hkh hTn
 clear h
 have h := h0
 have hy2 := hbl.size
 clear hl
 refine hK _ _ ?_
 clear hK K
 (try simp only [Act.put, zD, zE, zF])
 refine pP [.pointer (some ⟨b, 0, none⟩), .pointer (some ⟨b, 0, none⟩)] ?_
 refine cA 89 b 0 [.slice Ao no co] (([.slice Ao no co, c1, c2, c3, c4, c5, c6, c7, c8, c9, c10, c11, c12] : List Value) ++ rest).toArray T h ?_
 intro w3 h' hO3
 have hS3 := hS2.trans (hO3.below (by omega))
 have hz3 := hS3.size
 clear h
 have h := h'
 clear h'
 have hzz3 := hO3.size
 replace hO3 := Lib.hid hO3
 refine wN ?_
 go_upto_region 1 with fail
 refine pS [_] ?_
 go_upto_region 4 with fail
 refine pS [.tuple #[.pointer none, .bool false], .bool false, .pointer none] ?_
 go_upto_region 8 with fail
 refine pS [.tuple #[.pointer none, .bool false], .bool false, .pointer none] ?_
 go_upto_region 12 with fail
 refine pS [.tuple #[.pointer none, .bool false], .bool false, .pointer none] ?_
 go_upto_region 2 with fail
 refine pS [_] ?_
 go_upto_region 3 with fail
 refine pR [_, _] ?_
 refine cC func206 #[.pointer (some ⟨b, 0, none⟩), .iface 95 (.pointer (some ⟨bv, 0, none⟩))] (setRef_t5 _ b bv T (.slice Ao no co) c1 c2 c3 c4 c5 c6 c7 c8 c9 c10 c11 c12 rest h) ?_
 rintro e w4 ⟨rfl, h4, hO4⟩
 refine cR ?_
 have hS4 := hS3.trans (hO4.below hlo)
 refine wN ?_
 go_wp2
 go_end0
 exact App.mk' (refs := fun ov => [ov, c1, c2, c3, c4, c5, .pointer (some ⟨bv, 0, none⟩), c7, c8, c9, c10, c11, c12]) HT.out hlo hb1 hkh hS2 h0 hro (hO3.out.trans hO4) h4
theorem append_t6 (base : Nat) (w : World) (b bv : Nat) (T : TypeId) (c0 c1 c2 c3 c4 c5 c6 c7 c8 c9 c10 c11 c12 : Value) (rest vals : List Value) (h : Blk w b (([c0, c1, c2, c3, c4, c5, c6, c7, c8, c9, c10, c11, c12] : List Value) ++ rest).toArray T) (hT : T = 111 ∨ T = 106)
 (hr : Ro base w c0 vals) (hlo : base ≤ b) (hbase : base ≤ w.heap.size) (hlen : vals.length + 1 ≤ 4000000000000) :
 Calls Tryz.prog 175 #[.pointer (some ⟨b, 0, none⟩), .iface 100 (.pointer (some ⟨bv, 0, none⟩))] w (App base w b T (vals ++ [.iface 100 (.pointer (some ⟨bv, 0, none⟩))]) (fun ov => [ov, c1, c2, c3, c4, c5, c6, c7, c8, c9, c10, .pointer (some ⟨bv, 0, none⟩), c12]) rest) := by
 have HT := Lib.hid hT
 have hS0 := Below.refl base w
 have hTn : T ≠ 81 := by rcases hT with rfl | rfl <;> decide
 clear hT
 go_enter func175, ntmps175
 go_upto_region 0 with fail
 refine pR [_, _, .pointer (some ⟨b, 0, none⟩), .pointer (some ⟨b, 0, none⟩)] ?_
 refine Wl.ld (h.cell 0 (c0) (by kernel_rfl)) underlying89 ?_
 refine pP [_] ?_
 refine Wl.step (fun K hK => ?_)
 refine step_new rfl (fun b => .slice (some ⟨b, 0, none⟩) 1 1) (#[.iface 100 (.pointer (some ⟨bv, 0, none⟩))]) 81 (by kernel_rfl) ?_
 intro bl w1 bl_ge bl_lt hl hb1
 obtain ⟨hS1, hz1, hy1⟩ := zC hS0 hb1
 replace h := h.grow hb1
 refine hK _ _ ?_
 clear hK K
 (try simp only [Act.put, zD, zE, zF])
 refine Wl.step (fun K hK => ?_)
 refine step_append_hdr rfl _ _ rfl base c0 (.iface 100 (.pointer (some ⟨bv, 0, none⟩))) vals bl 1 (by kernel_rfl) (by kernel_rfl) hl rfl (hr.grow hb1) (by omega) hlen ?_
 intro ov w2 hro hkh hbl
 obtain ⟨Ao, no, co, rfl⟩ := Ro.shape hro
 have hS2 := hS1.trans hbl
 have h0 := h.kh hkh hTn
 clear h
 have h := h0
 have hy2 := hbl.size
 clear hl
 refine hK _ _ ?_
 clear hK K
 (try simp only [Act.put, zD, zE, zF])
 refine pP [.pointer (some ⟨b, 0, none⟩), .pointer (some ⟨b, 0, none⟩)] ?_
 refine cA 89 b 0 [.slice Ao no co] (([.slice Ao no co, c1, c2, c3, c4, c5, c6, c7, c8, c9, c10, c11, c12] : List Value) ++ rest).toArray T h ?_
 intro w3 h' hO3
 have hS3 := hS2.trans (hO3.below (by omega))
 have hz3 := hS3.size
 clear h
 have h := h'
 clear h'
 have hzz3 := hO3.size
 replace hO3 := Lib.hid hO3
 refine wN ?_
 go_upto_region 1 with fail
 refine pS [_] ?_
 go_upto_region 4 with fail
 refine pS [.tuple #[.pointer none, .bool false], .bool false, .pointer none] ?_
 go_upto_region 8 with fail
 refine pS [.tuple #[.pointer none, .bool false], .bool false, .pointer none] ?_
 go_upto_region 12 with fail
 refine pS [.tuple #[.pointer none, .bool false], .bool false, .pointer none] ?_
 go_upto_region 2 with fail
 refine pS [_] ?_
 go_upto_region 3 with fail
 refine pR [_, _] ?_
 refine cC func206 #[.pointer (some ⟨b, 0, none⟩), .iface 100 (.pointer (some ⟨bv, 0, none⟩))] (setRef_t6 _ b bv T (.slice Ao no co) c1 c2 c3 c4 c5 c6 c7 c8 c9 c10 c11 c12 rest h) ?_
 rintro e w4 ⟨rfl, h4, hO4⟩
 refine cR ?_
 have hS4 := hS3.trans (hO4.below hlo)
 refine wN ?_
 go_wp2
 go_end0
 exact App.mk' (refs := fun ov => [ov, c1, c2, c3, c4, c5, c6, c7, c8, c9, c10, .pointer (some ⟨bv, 0, none⟩), c12]) HT.out hlo hb1 hkh hS2 h0 hro (hO3.out.trans hO4) h4
theorem append_t7 (base : Nat) (w : World) (b bv : Nat) (T : TypeId) (c0 c1 c2 c3 c4 c5 c6 c7 c8 c9 c10 c11 c12 : Value) (rest vals : List Value) (h : Blk w b (([c0, c1, c2, c3, c4, c5, c6, c7, c8, c9, c10, c11, c12] : List Value) ++ rest).toArray T) (hT : T = 111 ∨ T = 106)
 (hr : Ro base w c0 vals) (hlo : base ≤ b) (hbase : base ≤ w.heap.size) (hlen : vals.length + 1 ≤ 4000000000000) :
 Calls Tryz.prog 175 #[.pointer (some ⟨b, 0, none⟩), .iface 129 (.pointer (some ⟨bv, 0, none⟩))] w (App base w b T (vals ++ [.iface 129 (.pointer (some ⟨bv, 0, none⟩))]) (fun ov => [ov, c1, c2, c3, c4, c5, c6, c7, c8, c9, c10, c11, c12]) rest) := by
 have HT := Lib.hid hT
 have hS0 := Below.refl base w
 have hTn : T ≠ 81 := by rcases hT with rfl | rfl <;> decide
 clear hT
 go_enter func175, ntmps175
 go_upto_region 0 with fail
 refine pR [_, _, .pointer (some ⟨b, 0, none⟩), .pointer (some ⟨b, 0, none⟩)] ?_
 refine Wl.ld (h.cell 0 (c0) (by kernel_rfl)) underlying89 ?_
 refine pP [_] ?_
 refine Wl.step (fun K hK => ?_)
 refine step_new rfl (fun b => .slice (some ⟨b, 0, none⟩) 1 1) (#[.iface 129 (.pointer (some ⟨bv, 0, none⟩))]) 81 (by kernel_rfl) ?_
 intro bl w1 bl_ge bl_lt hl hb1
 obtain ⟨hS1, hz1, hy1⟩ := zC hS0 hb1
 replace h := h.grow hb1
 refine hK _ _ ?_
 clear hK K
 (try simp only [Act.put, zD, zE, zF])
 refine Wl.step (fun K hK => ?_)
 refine step_append_hdr rfl _ _ rfl base c0 (.iface 129 (.pointer (some ⟨bv, 0, none⟩))) vals bl 1 (by kernel_rfl) (by kernel_rfl) hl rfl (hr.grow hb1) (by omega) hlen ?_
 intro ov w2 hro hkh hbl
 obtain ⟨Ao, no, co, rfl⟩ := Ro.shape hro
 have hS2 := hS1.trans hbl
 have h0 := h.kh hkh hTn
 clear h
 have h := h0
 have hy2 := hbl.size
 clear hl
 refine hK _ _ ?_
 clear hK K
 (try simp only [Act.put, zD, zE, zF])
 refine pP [.pointer (some ⟨b, 0, none⟩), .pointer (some ⟨b, 0, none⟩)] ?_
 refine cA 89 b 0 [.slice Ao no co] (([.slice Ao no co, c1, c2, c3, c4, c5, c6, c7, c8, c9, c10, c11, c12] : List Value) ++ rest).toArray T h ?_
 intro w3 h' hO3
 have hS3 := hS2.trans (hO3.below (by omega))
 have hz3 := hS3.size
 clear h
 have h := h'
 clear h'
 have hzz3 := hO3.size
 replace hO3 := Lib.hid hO3
 refine wN ?_
 go_upto_region 1 with fail
 refine pS [_] ?_
 go_upto_region 4 with fail
 refine pS [.tuple #[.pointer none, .bool false], .bool false, .pointer none] ?_
 go_upto_region 8 with fail
 refine pS [.tuple #[.pointer none, .bool false], .bool false, .pointer none] ?_
 go_upto_region 12 with fail
 refine pS [.tuple #[.pointer none, .bool false], .bool false, .pointer none] ?_
 go_upto_region 2 with fail
 refine pS [_] ?_
 go_upto_region 3 with fail
 refine pR [_, _] ?_
 refine cC func206 #[.pointer (some ⟨b, 0, none⟩), .iface 129 (.pointer (some ⟨bv, 0, none⟩))] (setRef_t7 _ b bv T (.slice Ao no co) c1 c2 c3 c4 c5 c6 c7 c8 c9 c10 c11 c12 rest h) ?_
 rintro e w4 ⟨rfl, h4, hO4⟩
 refine cR ?_
 have hS4 := hS3.trans (hO4.below hlo)
 refine wN ?_
 go_wp2
 go_end0
 exact App.mk' (refs := fun ov => [ov, c1, c2, c3, c4, c5, c6, c7, c8, c9, c10, c11, c12]) HT.out hlo hb1 hkh hS2 h0 hro (hO3.out.trans hO4) h4
theorem append_t8 (base : Nat) (w : World) (b bv : Nat) (T : TypeId) (c0 c1 c2 c3 c4 c5 c6 c7 c8 c9 c10 c11 c12 : Value) (rest vals : List Value) (h : Blk w b (([c0, c1, c2, c3, c4, c5, c6, c7, c8, c9, c10, c11, c12] : List Value) ++ rest).toArray T) (hT : T = 111 ∨ T = 106)
 (hr : Ro base w c0 vals) (hlo : base ≤ b) (hbase : base ≤ w.heap.size) (hlen : vals.length + 1 ≤ 4000000000000) :
 Calls Tryz.prog 175 #[.pointer (some ⟨b, 0, none⟩), .iface 96 (.pointer (some ⟨bv, 0, none⟩))] w (App base w b T (vals ++ [.iface 96 (.pointer (some ⟨bv, 0, none⟩))]) (fun ov => [ov, c1, c2, c3, c4, c5, c6, .pointer (some ⟨bv, 0, none⟩), c8, c9, c10, c11, c12]) rest) := by
 have HT := Lib.hid hT
 have hS0 := Below.refl base w
 have hTn : T ≠ 81 := by rcases hT with rfl | rfl <;> decide
 clear hT
 go_enter func175, ntmps175
 go_upto_region 0 with fail
 refine pR [_, _, .pointer (some ⟨b, 0, none⟩), .pointer (some ⟨b, 0, none⟩)] ?_
 refine Wl.ld (h.cell 0 (c0) (by kernel_rfl)) underlying89 ?_
 refine pP [_] ?_
 refine Wl.step (fun K hK => ?_)
 refine step_new rfl (fun b => .slice (some ⟨b, 0, none⟩) 1 1) (#[.iface 96 (.pointer (some ⟨bv, 0, none⟩))]) 81 (by kernel_rfl) ?_
 intro bl w1 bl_ge bl_lt hl hb1
 obtain ⟨hS1, hz1, hy1⟩ := zC hS0 hb1
 replace h := h.grow hb1
 refine hK _ _ ?_
 clear hK K
 (try simp only [Act.put, zD, zE, zF])
 refine Wl.step (fun K hK => ?_)
 refine step_append_hdr rfl _ _ rfl base c0 (.iface 96 (.pointer (some ⟨bv, 0, none⟩))) vals bl 1 (by kernel_rfl) (by kernel_rfl) hl rfl (hr.grow hb1) (by omega) hlen ?_
 intro ov w2 hro hkh hbl
 obtain ⟨Ao, no, co, rfl⟩ := Ro.shape hro
 have hS2 := hS1.trans hbl
 have h0 := h.kh hkh hTn
 clear h
 have h := h0
 have hy2 := hbl.size
 clear hl
 refine hK _ _ ?_
 clear hK K
 (try simp only [Act.put, zD, zE, zF])
 refine pP [.pointer (some ⟨b, 0, none⟩), .pointer (some ⟨b, 0, none⟩)] ?_
 refine cA 89 b 0 [.slice Ao no co] (([.slice Ao no co, c1, c2, c3, c4, c5, c6, c7, c8, c9, c10, c11, c12] : List Value) ++ rest).toArray T h ?_
 intro w3 h' hO3
 have hS3 := hS2.trans (hO3.below (by omega))
 have hz3 := hS3.size
 clear h
 have h := h'
 clear h'
 have hzz3 := hO3.size
 replace hO3 := Lib.hid hO3
 refine wN ?_
 go_upto_region 1 with fail
 refine pS [_] ?_
 go_upto_region 4 with fail
 refine pS [.tuple #[.pointer none, .bool false], .bool false, .pointer none] ?_
 go_upto_region 8 with fail
 refine pS [.tuple #[.pointer none, .bool false], .bool false, .pointer none] ?_
 go_upto_region 12 with fail
 refine pS [.tuple #[.pointer none, .bool false], .bool false, .pointer none] ?_
 go_upto_region 2 with fail
 refine pS [_] ?_
 go_upto_region 3 with fail
 refine pR [_, _] ?_
 refine cC func206 #[.pointer (some ⟨b, 0, none⟩), .iface 96 (.pointer (some ⟨bv, 0, none⟩))] (setRef_t8 _ b bv T (.slice Ao no co) c1 c2 c3 c4 c5 c6 c7 c8 c9 c10 c11 c12 rest h) ?_
 rintro e w4 ⟨rfl, h4, hO4⟩
 refine cR ?_
 have hS4 := hS3.trans (hO4.below hlo)
 refine wN ?_
 go_wp2
 go_end0
 exact App.mk' (refs := fun ov => [ov, c1, c2, c3, c4, c5, c6, .pointer (some ⟨bv, 0, none⟩), c8, c9, c10, c11, c12]) HT.out hlo hb1 hkh hS2 h0 hro (hO3.out.trans hO4) h4
theorem append_t9n (base : Nat) (w : World) (b bv : Nat) (T : TypeId) (c0 c2 c3 c4 c5 c6 c7 c8 c9 c10 c11 c12 : Value) (rest vals : List Value) (h : Blk w b (([c0, .pointer none, c2, c3, c4, c5, c6, c7, c8, c9, c10, c11, c12] : List Value) ++ rest).toArray T) (hT : T = 111 ∨ T = 106)
 (hr : Ro base w c0 vals) (hlo : base ≤ b) (hbase : base ≤ w.heap.size) (hlen : vals.length + 1 ≤ 4000000000000) :
 Calls Tryz.prog 175 #[.pointer (some ⟨b, 0, none⟩), .iface 90 (.pointer (some ⟨bv, 0, none⟩))] w (App base w b T (vals ++ [.iface 90 (.pointer (some ⟨bv, 0, none⟩))]) (fun ov => [ov, .pointer (some ⟨bv, 0, none⟩), c2, c3, c4, c5, c6, c7, c8, c9, c10, c11, c12]) rest) := by
 have HT := Lib.hid hT
 have hS0 := Below.refl base w
 have hTn : T ≠ 81 := by rcases hT with rfl | rfl <;> decide
 clear hT
 go_enter func175, ntmps175
 go_upto_region 0 with fail
 refine pR [_, _, .pointer (some ⟨b, 0, none⟩), .pointer (some ⟨b, 0, none⟩)] ?_
 refine Wl.ld (h.cell 0 (c0) (by kernel_rfl)) underlying89 ?_
 refine pP [_] ?_
 refine Wl.step (fun K hK => ?_)
 refine step_new rfl (fun b => .slice (some ⟨b, 0, none⟩) 1 1) (#[.iface 90 (.pointer (some ⟨bv, 0, none⟩))]) 81 (by kernel_rfl) ?_
 intro bl w1 bl_ge bl_lt hl hb1
 obtain ⟨hS1, hz1, hy1⟩ := zC hS0 hb1
 replace h := h.grow hb1
 refine hK _ _ ?_
 clear hK K
 (try simp only [Act.put, zD, zE, zF])
 refine Wl.step (fun K hK => ?_)
 refine step_append_hdr rfl _ _ rfl base c0 (.iface 90 (.pointer (some ⟨bv, 0, none⟩))) vals bl 1 (by kernel_rfl) (by kernel_rfl) hl rfl (hr.grow hb1) (by omega) hlen ?_
 intro ov w2 hro hkh hbl
 obtain ⟨Ao, no, co, rfl⟩ := Ro.shape hro
 have hS2 := hS1.trans hbl
 have h0 := h.kh hkh hTn
 clear h
 have h := h0
 have hy2 := hbl.size
 clear hl
 refine hK _ _ ?_
 clear hK K
 (try simp only [Act.put, zD, zE, zF])
 refine pP [.pointer (some ⟨b, 0, none⟩), .pointer (some ⟨b, 0, none⟩)] ?_
 refine cA 89 b 0 [.slice Ao no co] (([.slice Ao no co, .pointer none, c2, c3, c4, c5, c6, c7, c8, c9, c10, c11, c12] : List Value) ++ rest).toArray T h ?_
 intro w3 h' hO3
 have hS3 := hS2.trans (hO3.below (by omega))
 have hz3 := hS3.size
 clear h
 have h := h'
 clear h'
 have hzz3 := hO3.size
 replace hO3 := Lib.hid hO3
 refine wN ?_
 go_upto_region 1 with fail
 refine pS [_] ?_
 go_upto_region 4 with fail
 refine pS [.tuple #[.pointer (some ⟨bv, 0, none⟩), .bool true], .bool true, .pointer (some ⟨bv, 0, none⟩)] ?_
 go_upto_region 5 with fail
 refine pS [_] ?_
 go_upto_region 6 with fail
 refine pR [_, .pointer (some ⟨b, 0, none⟩), .pointer (some ⟨b, 1, none⟩)] ?_
 refine Wl.ld (h.cell 1 (.pointer none) (by kernel_rfl)) underlying90 ?_
 refine pQ [.bool true] ?_
 go_upto_region 7 with fail
 refine pR [_, _, .pointer (some ⟨b, 0, none⟩), .pointer (some ⟨b, 1, none⟩)] ?_
 refine cA 90 b 1 [.pointer (some ⟨bv, 0, none⟩)] (([.slice Ao no co, .pointer (some ⟨bv, 0, none⟩), c2, c3, c4, c5, c6, c7, c8, c9, c10, c11, c12] : List Value) ++ rest).toArray T h ?_
 intro w4 h' hO4
 have hS4 := hS3.trans (hO4.below (by omega))
 have hz4 := hS4.size
 clear h
 have h := h'
 clear h'
 have hzz4 := hO4.size
 replace hO4 := Lib.hid hO4
 refine wN ?_
 go_wp2
 go_end0
 exact App.mk' (refs := fun ov => [ov, .pointer (some ⟨bv, 0, none⟩), c2, c3, c4, c5, c6, c7, c8, c9, c10, c11, c12]) HT.out hlo hb1 hkh hS2 h0 hro (hO3.out.trans hO4.out) h
theorem append_t9s (base : Nat) (w : World) (b bv bx : Nat) (T : TypeId) (c0 c2 c3 c4 c5 c6 c7 c8 c9 c10 c11 c12 : Value) (rest vals : List Value) (h : Blk w b (([c0, .pointer (some ⟨bx, 0, none⟩), c2, c3, c4, c5, c6, c7, c8, c9, c10, c11, c12] : List Value) ++ rest).toArray T) (hT : T = 111 ∨ T = 106)
 (hr : Ro base w c0 vals) (hlo : base ≤ b) (hbase : base ≤ w.heap.size) (hlen : vals.length + 1 ≤ 4000000000000) :
 Calls Tryz.prog 175 #[.pointer (some ⟨b, 0, none⟩), .iface 90 (.pointer (some ⟨bv, 0, none⟩))] w (App base w b T (vals ++ [.iface 90 (.pointer (some ⟨bv, 0, none⟩))]) (fun ov => [ov, .pointer (some ⟨bx, 0, none⟩), c2, c3, c4, c5, c6, c7, c8, c9, c10, c11, c12]) rest) := by
 have HT := Lib.hid hT
 have hS0 := Below.refl base w
 have hTn : T ≠ 81 := by rcases hT with rfl | rfl <;> decide
 clear hT
 go_enter func175, ntmps175
 go_upto_region 0 with fail
 refine pR [_, _, .pointer (some ⟨b, 0, none⟩), .pointer (some ⟨b, 0, none⟩)] ?_
 refine Wl.ld (h.cell 0 (c0) (by kernel_rfl)) underlying89 ?_
 refine pP [_] ?_
 refine Wl.step (fun K hK => ?_)
 refine step_new rfl (fun b => .slice (some ⟨b, 0, none⟩) 1 1) (#[.iface 90 (.pointer (some ⟨bv, 0, none⟩))]) 81 (by kernel_rfl) ?_
 intro bl w1 bl_ge bl_lt hl hb1
 obtain ⟨hS1, hz1, hy1⟩ := zC hS0 hb1
 replace h := h.grow hb1
 refine hK _ _ ?_
 clear hK K
 (try simp only [Act.put, zD, zE, zF])
 refine Wl.step (fun K hK => ?_)
 refine step_append_hdr rfl _ _ rfl base c0 (.iface 90 (.pointer (some ⟨bv, 0, none⟩))) vals bl 1 (by kernel_rfl) (by kernel_rfl) hl rfl (hr.grow hb1) (by omega) hlen ?_
 intro ov w2 hro hkh hbl
 obtain ⟨Ao, no, co, rfl⟩ := Ro.shape hro
 have hS2 := hS1.trans hbl
 have h0 := h.kh hkh hTn
 clear h
 have h := h0
 have hy2 := hbl.size
 clear hl
 refine hK _ _ ?_
 clear hK K
 (try simp only [Act.put, zD, zE, zF])
 refine pP [.pointer (some ⟨b, 0, none⟩), .pointer (some ⟨b, 0, none⟩)] ?_
 refine cA 89 b 0 [.slice Ao no co] (([.slice Ao no co, .pointer (some ⟨bx, 0, none⟩), c2, c3, c4, c5, c6, c7, c8, c9, c10, c11, c12] : List Value) ++ rest).toArray T h ?_
 intro w3 h' hO3
 have hS3 := hS2.trans (hO3.below (by omega))
 have hz3 := hS3.size
 clear h
 have h := h'
 clear h'
 have hzz3 := hO3.size
 replace hO3 := Lib.hid hO3
 refine wN ?_
 go_upto_region 1 with fail
 refine pS [_] ?_
 go_upto_region 4 with fail
 refine pS [.tuple #[.pointer (some ⟨bv, 0, none⟩), .bool true], .bool true, .pointer (some ⟨bv, 0, none⟩)] ?_
 go_upto_region 5 with fail
 refine pS [_] ?_
 go_upto_region 6 with fail
 refine pR [_, .pointer (some ⟨b, 0, none⟩), .pointer (some ⟨b, 1, none⟩)] ?_
 refine Wl.ld (h.cell 1 (.pointer (some ⟨bx, 0, none⟩)) (by kernel_rfl)) underlying90 ?_
 refine pQ [.bool false] ?_
 go_wp2
 go_end0
 exact App.mk' (refs := fun ov => [ov, .pointer (some ⟨bx, 0, none⟩), c2, c3, c4, c5, c6, c7, c8, c9, c10, c11, c12]) HT.out hlo hb1 hkh hS2 h0 hro hO3.out h
theorem append_t10 (base : Nat) (w : World) (b bv : Nat) (T : TypeId) (c0 c1 c2 c3 c4 c5 c6 c7 c8 c9 c10 c11 c12 : Value) (rest vals : List Value) (h : Blk w b (([c0, c1, c2, c3, c4, c5, c6, c7, c8, c9, c10, c11, c12] : List Value) ++ rest).toArray T) (hT : T = 111 ∨ T = 106)
 (hr : Ro base w c0 vals) (hlo : base ≤ b) (hbase : base ≤ w.heap.size) (hlen : vals.length + 1 ≤ 4000000000000) :
 Calls Tryz.prog 175 #[.pointer (some ⟨b, 0, none⟩), .iface 97 (.pointer (some ⟨bv, 0, none⟩))] w (App base w b T (vals ++ [.iface 97 (.pointer (some ⟨bv, 0, none⟩))]) (fun ov => [ov, c1, c2, c3, c4, c5, c6, c7, .pointer (some ⟨bv, 0, none⟩), c9, c10, c11, c12]) rest) := by
 have HT := Lib.hid hT
 have hS0 := Below.refl base w
 have hTn : T ≠ 81 := by rcases hT with rfl | rfl <;> decide
 clear hT
 go_enter func175, ntmps175
 go_upto_region 0 with fail
 refine pR [_, _, .pointer (some ⟨b, 0, none⟩), .pointer (some ⟨b, 0, none⟩)] ?_
 refine Wl.ld (h.cell 0 (c0) (by kernel_rfl)) underlying89 ?_
 refine pP [_] ?_
 refine Wl.step (fun K hK => ?_)
 refine step_new rfl (fun b => .slice (some ⟨b, 0, none⟩) 1 1) (#[.iface 97 (.pointer (some ⟨bv, 0, none⟩))]) 81 (by kernel_rfl) ?_
 intro bl w1 bl_ge bl_lt hl hb1
 obtain ⟨hS1, hz1, hy1⟩ := zC hS0 hb1
 replace h := h.grow hb1
 refine hK _ _ ?_
 clear hK K
 (try simp only [Act.put, zD, zE, zF])
 refine Wl.step (fun K hK => ?_)
 refine step_append_hdr rfl _ _ rfl base c0 (.iface 97 (.pointer (some ⟨bv, 0, none⟩))) vals bl 1 (by kernel_rfl) (by kernel_rfl) hl rfl (hr.grow hb1) (by omega) hlen ?_
 intro ov w2 hro hkh hbl
 obtain ⟨Ao, no, co, rfl⟩ := Ro.shape hro
 have hS2 := hS1.trans hbl
 have h0 := h.kh hkh hTn
 clear h
 have h := h0
 have hy2 := hbl.size
 clear hl
 refine hK _ _ ?_
 clear hK K
 (try simp only [Act.put, zD, zE, zF])
 refine pP [.pointer (some ⟨b, 0, none⟩), .pointer (some ⟨b, 0, none⟩)] ?_
 refine cA 89 b 0 [.slice Ao no co] (([.slice Ao no co, c1, c2, c3, c4, c5, c6, c7, c8, c9, c10, c11, c12] : List Value) ++ rest).toArray T h ?_
 intro w3 h' hO3
 have hS3 := hS2.trans (hO3.below (by omega))
 have hz3 := hS3.size
 clear h
 have h := h'
 clear h'
 have hzz3 := hO3.size
 replace hO3 := Lib.hid hO3
 refine wN ?_
 go_upto_region 1 with fail
 refine pS [_] ?_
 go_upto_region 4 with fail
 refine pS [.tuple #[.pointer none, .bool false], .bool false, .pointer none] ?_
 go_upto_region 8 with fail
 refine pS [.tuple #[.pointer none, .bool false], .bool false, .pointer none] ?_
 go_upto_region 12 with fail
 refine pS [.tuple #[.pointer none, .bool false], .bool false, .pointer none] ?_
 go_upto_region 2 with fail
 refine pS [_] ?_
 go_upto_region 3 with fail
 refine pR [_, _] ?_
 refine cC func206 #[.pointer (some ⟨b, 0, none⟩), .iface 97 (.pointer (some ⟨bv, 0, none⟩))] (setRef_t10 _ b bv T (.slice Ao no co) c1 c2 c3 c4 c5 c6 c7 c8 c9 c10 c11 c12 rest h) ?_
 rintro e w4 ⟨rfl, h4, hO4⟩
 refine cR ?_
 have hS4 := hS3.trans (hO4.below hlo)
 refine wN ?_
 go_wp2
 go_end0
 exact App.mk' (refs := fun ov => [ov, c1, c2, c3, c4, c5, c6, c7, .pointer (some ⟨bv, 0, none⟩), c9, c10, c11, c12]) HT.out hlo hb1 hkh hS2 h0 hro (hO3.out.trans hO4) h4
theorem append_t11n (base : Nat) (w : World) (b bv : Nat) (T : TypeId) (c0 c1 c2 c3 c4 c5 c6 c7 c8 c10 c11 c12 : Value) (rest vals : List Value) (h : Blk w b (([c0, c1, c2, c3, c4, c5, c6, c7, c8, .pointer none, c10, c11, c12] : List Value) ++ rest).toArray T) (hT : T = 111 ∨ T = 106)
 (hr : Ro base w c0 vals) (hlo : base ≤ b) (hbase : base ≤ w.heap.size) (hlen : vals.length + 1 ≤ 4000000000000) :
 Calls Tryz.prog 175 #[.pointer (some ⟨b, 0, none⟩), .iface 98 (.pointer (some ⟨bv, 0, none⟩))] w (App base w b T (vals ++ [.iface 98 (.pointer (some ⟨bv, 0, none⟩))]) (fun ov => [ov, c1, c2, c3, c4, c5, c6, c7, c8, .pointer (some ⟨bv, 0, none⟩), c10, c11, c12]) rest) := by
 have HT := Lib.hid hT
 have hS0 := Below.refl base w
 have hTn : T ≠ 81 := by rcases hT with rfl | rfl <;> decide
 clear hT
 go_enter func175, ntmps175
 go_upto_region 0 with fail
 refine pR [_, _, .pointer (some ⟨b, 0, none⟩), .pointer (some ⟨b, 0, none⟩)] ?_
 refine Wl.ld (h.cell 0 (c0) (by kernel_rfl)) underlying89 ?_
 refine pP [_] ?_
 refine Wl.step (fun K hK => ?_)
 refine step_new rfl (fun b => .slice (some ⟨b, 0, none⟩) 1 1) (#[.iface 98 (.pointer (some ⟨bv, 0, none⟩))]) 81 (by kernel_rfl) ?_
 intro bl w1 bl_ge bl_lt hl hb1
 obtain ⟨hS1, hz1, hy1⟩ := zC hS0 hb1
 replace h := h.grow hb1
 refine hK _ _ ?_
 clear hK K
 (try simp only [Act.put, zD, zE, zF])
 refine Wl.step (fun K hK => ?_)
 refine step_append_hdr rfl _ _ rfl base c0 (.iface 98 (.pointer (some ⟨bv, 0, none⟩))) vals bl 1 (by kernel_rfl) (by kernel_rfl) hl rfl (hr.grow hb1) (by omega) hlen ?_
 intro ov w2 hro hkh hbl
 obtain ⟨Ao, no, co, rfl⟩ := Ro.shape hro
 have hS2 := hS1.trans hbl
 have h0 := h.kh hkh hTn
 clear h
 have h := h0
 have hy2 := hbl.size
 clear hl
 refine hK _ _ ?_
 clear hK K
 (try simp only [Act.put, zD, zE, zF])
 refine pP [.pointer (some ⟨b, 0, none⟩), .pointer (some ⟨b, 0, none⟩)] ?_
 refine cA 89 b 0 [.slice Ao no co] (([.slice Ao no co, c1, c2, c3, c4, c5, c6, c7, c8, .pointer none, c10, c11, c12] : List Value) ++ rest).toArray T h ?_
 intro w3 h' hO3
 have hS3 := hS2.trans (hO3.below (by omega))
 have hz3 := hS3.size
 clear h
 have h := h'
 clear h'
 have hzz3 := hO3.size
 replace hO3 := Lib.hid hO3
 refine wN ?_
 go_upto_region 1 with fail
 refine pS [_] ?_
 go_upto_region 4 with fail
 refine pS [.tuple #[.pointer none, .bool false], .bool false, .pointer none] ?_
 go_upto_region 8 with fail
 refine pS [.tuple #[.pointer (some ⟨bv, 0, none⟩), .bool true], .bool true, .pointer (some ⟨bv, 0, none⟩)] ?_
 go_upto_region 9 with fail
 refine pS [_] ?_
 go_upto_region 10 with fail
 refine pR [_, .pointer (some ⟨b, 0, none⟩), .pointer (some ⟨b, 9, none⟩)] ?_
 refine Wl.ld (h.cell 9 (.pointer none) (by kernel_rfl)) underlying98 ?_
 refine pQ [.bool true] ?_
 go_upto_region 11 with fail
 refine pR [_, _, .pointer (some ⟨b, 0, none⟩), .pointer (some ⟨b, 9, none⟩)] ?_
 refine cA 98 b 9 [.pointer (some ⟨bv, 0, none⟩)] (([.slice Ao no co, c1, c2, c3, c4, c5, c6, c7, c8, .pointer (some ⟨bv, 0, none⟩), c10, c11, c12] : List Value) ++ rest).toArray T h ?_
 intro w4 h' hO4
 have hS4 := hS3.trans (hO4.below (by omega))
 have hz4 := hS4.size
 clear h
 have h := h'
 clear h'
 have hzz4 := hO4.size
 replace hO4 := Lib.hid hO4
 refine wN ?_
 go_wp2
 go_end0
 exact App.mk' (refs := fun ov => [ov, c1, c2, c3, c4, c5, c6, c7, c8, .pointer (some ⟨bv, 0, none⟩), c10, c11, c12]) HT.out hlo hb1 hkh hS2 h0 hro (hO3.out.trans hO4.out) h
theorem append_t11s (base : Nat) (w : World) (b bv bx : Nat) (T : TypeId) (c0 c1 c2 c3 c4 c5 c6 c7 c8 c10 c11 c12 : Value) (rest vals : List Value) (h : Blk w b (([c0, c1, c2, c3, c4, c5, c6, c7, c8, .pointer (some ⟨bx, 0, none⟩), c10, c11, c12] : List Value) ++ rest).toArray T) (hT : T = 111 ∨ T = 106)
 (hr : Ro base w c0 vals) (hlo : base ≤ b) (hbase : base ≤ w.heap.size) (hlen : vals.length + 1 ≤ 4000000000000) :
 Calls Tryz.prog 175 #[.pointer (some ⟨b, 0, none⟩), .iface 98 (.pointer (some ⟨bv, 0, none⟩))] w (App base w b T (vals ++ [.iface 98 (.pointer (some ⟨bv, 0, none⟩))]) (fun ov => [ov, c1, c2, c3, c4, c5, c6, c7, c8, .pointer (some ⟨bx, 0, none⟩), c10, c11, c12]) rest) := by
 have HT := Lib.hid hT
 have hS0 := Below.refl base w
 have hTn : T ≠ 81 := by rcases hT with rfl | rfl <;> decide
 clear hT
 go_enter func175, ntmps175
 go_upto_region 0 with fail
 refine pR [_, _, .pointer (some ⟨b, 0, none⟩), .pointer (some ⟨b, 0, none⟩)] ?_
 refine Wl.ld (h.cell 0 (c0) (by kernel_rfl)) underlying89 ?_
 refine pP [_] ?_
 refine Wl.step (fun K hK => ?_)
 refine step_new rfl (fun b => .slice (some ⟨b, 0, none⟩) 1 1) (#[.iface 98 (.pointer (some ⟨bv, 0, none⟩))]) 81 (by kernel_rfl) ?_
 intro bl w1 bl_ge bl_lt hl hb1
 obtain ⟨hS1, hz1, hy1⟩ := zC hS0 hb1
 replace h := h.grow hb1
 refine hK _ _ ?_
 clear hK K
 (try simp only [Act.put, zD, zE, zF])
 refine Wl.step (fun K hK => ?_)
 refine step_append_hdr rfl _ _ rfl base c0 (.iface 98 (.pointer (some ⟨bv, 0, none⟩))) vals bl 1 (by kernel_rfl) (by kernel_rfl) hl rfl (hr.grow hb1) (by omega) hlen ?_
 intro ov w2 hro hkh hbl
 obtain ⟨Ao, no, co, rfl⟩ := Ro.shape hro
 have hS2 := hS1.trans hbl
 have h0 := h.kh hkh hTn
 clear h
 have h := h0
 have hy2 := hbl.size
 clear hl
 refine hK _ _ ?_
 clear hK K
 (try simp only [Act.put, zD, zE, zF])
 refine pP [.pointer (some ⟨b, 0, none⟩), .pointer (some ⟨b, 0, none⟩)] ?_
 refine cA 89 b 0 [.slice Ao no co] (([.slice Ao no co, c1, c2, c3, c4, c5, c6, c7, c8, .pointer (some ⟨bx, 0, none⟩), c10, c11, c12] : List Value) ++ rest).toArray T h ?_
 intro w3 h' hO3
 have hS3 := hS2.trans (hO3.below (by omega))
 have hz3 := hS3.size
 clear h
 have h := h'
 clear h'
 have hzz3 := hO3.size
 replace hO3 := Lib.hid hO3
 refine wN ?_
 go_upto_region 1 with fail
 refine pS [_] ?_
 go_upto_region 4 with fail
 refine pS [.tuple #[.pointer none, .bool false], .bool false, .pointer none] ?_
 go_upto_region 8 with fail
 refine pS [.tuple #[.pointer (some ⟨bv, 0, none⟩), .bool true], .bool true, .pointer (some ⟨bv, 0, none⟩)] ?_
 go_upto_region 9 with fail
 refine pS [_] ?_
 go_upto_region 10 with fail
 refine pR [_, .pointer (some ⟨b, 0, none⟩), .pointer (some ⟨b, 9, none⟩)] ?_
 refine Wl.ld (h.cell 9 (.pointer (some ⟨bx, 0, none⟩)) (by kernel_rfl)) underlying98 ?_
 refine pQ [.bool false] ?_
 go_wp2
 go_end0
 exact App.mk' (refs := fun ov => [ov, c1, c2, c3, c4, c5, c6, c7, c8, .pointer (some ⟨bx, 0, none⟩), c10, c11, c12]) HT.out hlo hb1 hkh hS2 h0 hro hO3.out h
theorem append_t12n (base : Nat) (w : World) (b bv : Nat) (T : TypeId) (c0 c1 c2 c3 c4 c5 c6 c7 c8 c9 c11 c12 : Value) (rest vals : List Value) (h : Blk w b (([c0, c1, c2, c3, c4, c5, c6, c7, c8, c9, .pointer none, c11, c12] : List Value) ++ rest).toArray T) (hT : T = 111 ∨ T = 106)
 (hr : Ro base w c0 vals) (hlo : base ≤ b) (hbase : base ≤ w.heap.size) (hlen : vals.length + 1 ≤ 4000000000000) :
 Calls Tryz.prog 175 #[.pointer (some ⟨b, 0, none⟩), .iface 99 (.pointer (some ⟨bv, 0, none⟩))] w (App base w b T (vals ++ [.iface 99 (.pointer (some ⟨bv, 0, none⟩))]) (fun ov => [ov, c1, c2, c3, c4, c5, c6, c7, c8, c9, .pointer (some ⟨bv, 0, none⟩), c11, c12]) rest) := by
 have HT := Lib.hid hT
 have hS0 := Below.refl base w
 have hTn : T ≠ 81 := by rcases hT with rfl | rfl <;> decide
 clear hT
 go_enter func175, ntmps175
 go_upto_region 0 with fail
 refine pR [_, _, .pointer (some ⟨b, 0, none⟩), .pointer (some ⟨b, 0, none⟩)] ?_
 refine Wl.ld (h.cell 0 (c0) (by kernel_rfl)) underlying89 ?_
 refine pP [_] ?_
 refine Wl.step (fun K hK => ?_)
 refine step_new rfl (fun b => .slice (some ⟨b, 0, none⟩) 1 1) (#[.iface 99 (.pointer (some ⟨bv, 0, none⟩))]) 81 (by kernel_rfl) ?_
 intro bl w1 bl_ge bl_lt hl hb1
 obtain ⟨hS1, hz1, hy1⟩ := zC hS0 hb1
 replace h := h.grow hb1
 refine hK _ _ ?_
 clear hK K
 (try simp only [Act.put, zD, zE, zF])
 refine Wl.step (fun K hK => ?_)
 refine step_append_hdr rfl _ _ rfl base c0 (.iface 99 (.pointer (some ⟨bv, 0, none⟩))) vals bl 1 (by kernel_rfl) (by kernel_rfl) hl rfl (hr.grow hb1) (by omega) hlen ?_
 intro ov w2 hro hkh hbl
 obtain ⟨Ao, no, co, rfl⟩ := Ro.shape hro
 have hS2 := hS1.trans hbl
 have h0 := h.kh hkh hTn
 clear h
 have h := h0
 have hy2 := hbl.size
 clear hl
 refine hK _ _ ?_
 clear hK K
 (try simp only [Act.put, zD, zE, zF])
 refine pP [.pointer (some ⟨b, 0, none⟩), .pointer (some ⟨b, 0, none⟩)] ?_
 refine cA 89 b 0 [.slice Ao no co] (([.slice Ao no co, c1, c2, c3, c4, c5, c6, c7, c8, c9, .pointer none, c11, c12] : List Value) ++ rest).toArray T h ?_
 intro w3 h' hO3
 have hS3 := hS2.trans (hO3.below (by omega))
 have hz3 := hS3.size
 clear h
 have h := h'
 clear h'
 have hzz3 := hO3.size
 replace hO3 := Lib.hid hO3
 refine wN ?_
 go_upto_region 1 with fail
 refine pS [_] ?_
 go_upto_region 4 with fail
 refine pS [.tuple #[.pointer none, .bool false], .bool false, .pointer none] ?_
 go_upto_region 8 with fail
 refine pS [.tuple #[.pointer none, .bool false], .bool false, .pointer none] ?_
 go_upto_region 12 with fail
 refine pS [.tuple #[.pointer (some ⟨bv, 0, none⟩), .bool true], .bool true, .pointer (some ⟨bv, 0, none⟩)] ?_
 go_upto_region 13 with fail
 refine pS [_] ?_
 go_upto_region 14 with fail
 refine pR [_, .pointer (some ⟨b, 0, none⟩), .pointer (some ⟨b, 10, none⟩)] ?_
 refine Wl.ld (h.cell 10 (.pointer none) (by kernel_rfl)) underlying99 ?_
 refine pQ [.bool true] ?_
 go_upto_region 15 with fail
 refine pR [_, _, .pointer (some ⟨b, 0, none⟩), .pointer (some ⟨b, 10, none⟩)] ?_
 refine cA 99 b 10 [.pointer (some ⟨bv, 0, none⟩)] (([.slice Ao no co, c1, c2, c3, c4, c5, c6, c7, c8, c9, .pointer (some ⟨bv, 0, none⟩), c11, c12] : List Value) ++ rest).toArray T h ?_
 intro w4 h' hO4
 have hS4 := hS3.trans (hO4.below (by omega))
 have hz4 := hS4.size
 clear h
 have h := h'
 clear h'
 have hzz4 := hO4.size
 replace hO4 := Lib.hid hO4
 refine wN ?_
 go_wp2
 go_end0
 exact App.mk' (refs := fun ov => [ov, c1, c2, c3, c4, c5, c6, c7, c8, c9, .pointer (some ⟨bv, 0, none⟩), c11, c12]) HT.out hlo hb1 hkh hS2 h0 hro (hO3.out.trans hO4.out) h
theorem append_t12s (base : Nat) (w : World) (b bv bx : Nat) (T : TypeId) (c0 c1 c2 c3 c4 c5 c6 c7 c8 c9 c11 c12 : Value) (rest vals : List Value) (h : Blk w b (([c0, c1, c2, c3, c4, c5, c6, c7, c8, c9, .pointer (some ⟨bx, 0, none⟩), c11, c12] : List Value) ++ rest).toArray T) (hT : T = 111 ∨ T = 106)
 (hr : Ro base w c0 vals) (hlo : base ≤ b) (hbase : base ≤ w.heap.size) (hlen : vals.length + 1 ≤ 4000000000000) :
 Calls Tryz.prog 175 #[.pointer (some ⟨b, 0, none⟩), .iface 99 (.pointer (some ⟨bv, 0, none⟩))] w (App base w b T (vals ++ [.iface 99 (.pointer (some ⟨bv, 0, none⟩))]) (fun ov => [ov, c1, c2, c3, c4, c5, c6, c7, c8, c9, .pointer (some ⟨bx, 0, none⟩), c11, c12]) rest) := by
 have HT := Lib.hid hT
 have hS0 := Below.refl base w
 have hTn : T ≠ 81 := by rcases hT with rfl | rfl <;> decide
 clear hT
 go_enter func175, ntmps175
 go_upto_region 0 with fail
 refine pR [_, _, .pointer (some ⟨b, 0, none⟩), .pointer (some ⟨b, 0, none⟩)] ?_
 refine Wl.ld (h.cell 0 (c0) (by kernel_rfl)) underlying89 ?_
 refine pP [_] ?_
 refine Wl.step (fun K hK => ?_)
 refine step_new rfl (fun b => .slice (some ⟨b, 0, none⟩) 1 1) (#[.iface 99 (.pointer (some ⟨bv, 0, none⟩))]) 81 (by kernel_rfl) ?_
 intro bl w1 bl_ge bl_lt hl hb1
 obtain ⟨hS1, hz1, hy1⟩ := zC hS0 hb1
 replace h := h.grow hb1
 refine hK _ _ ?_
 clear hK K
 (try simp only [Act.put, zD, zE, zF])
 refine Wl.step (fun K hK => ?_)
 refine step_append_hdr rfl _ _ rfl base c0 (.iface 99 (.pointer (some ⟨bv, 0, none⟩))) vals bl 1 (by kernel_rfl) (by kernel_rfl) hl rfl (hr.grow hb1) (by omega) hlen ?_
 intro ov w2 hro hkh hbl
 obtain ⟨Ao, no, co, rfl⟩ := Ro.shape hro
 have hS2 := hS1.trans hbl
 have h0 := h.kh hkh hTn
 clear h
 have h := h0
 have hy2 := hbl.size
 clear hl
 refine hK _ _ ?_
 clear hK K
 (try simp only [Act.put, zD, zE, zF])
 refine pP [.pointer (some ⟨b, 0, none⟩), .pointer (some ⟨b, 0, none⟩)] ?_
 refine cA 89 b 0 [.slice Ao no co] (([.slice Ao no co, c1, c2, c3, c4, c5, c6, c7, c8, c9, .pointer (some ⟨bx, 0, none⟩), c11, c12] : List Value) ++ rest).toArray T h ?_
 intro w3 h' hO3
 have hS3 := hS2.trans (hO3.below (by omega))
 have hz3 := hS3.size
 clear h
 have h := h'
 clear h'
 have hzz3 := hO3.size
 replace hO3 := Lib.hid hO3
 refine wN ?_
 go_upto_region 1 with fail
 refine pS [_] ?_
 go_upto_region 4 with fail
 refine pS [.tuple #[.pointer none, .bool false], .bool false, .pointer none] ?_
 go_upto_region 8 with fail
 refine pS [.tuple #[.pointer none, .bool false], .bool false, .pointer none] ?_
 go_upto_region 12 with fail
 refine pS [.tuple #[.pointer (some ⟨bv, 0, none⟩), .bool true], .bool true, .pointer (some ⟨bv, 0, none⟩)] ?_
 go_upto_region 13 with fail
 refine pS [_] ?_
 go_upto_region 14 with fail
 refine pR [_, .pointer (some ⟨b, 0, none⟩), .pointer (some ⟨b, 10, none⟩)] ?_
 refine Wl.ld (h.cell 10 (.pointer (some ⟨bx, 0, none⟩)) (by kernel_rfl)) underlying99 ?_
 refine pQ [.bool false] ?_
 go_wp2
 go_end0
 exact App.mk' (refs := fun ov => [ov, c1, c2, c3, c4, c5, c6, c7, c8, c9, .pointer (some ⟨bx, 0, none⟩), c11, c12]) HT.out hlo hb1 hkh hS2 h0 hro hO3.out h
theorem append_t13 (base : Nat) (w : World) (b bv : Nat) (T : TypeId) (c0 c1 c2 c3 c4 c5 c6 c7 c8 c9 c10 c11 c12 : Value) (rest vals : List Value) (h : Blk w b (([c0, c1, c2, c3, c4, c5, c6, c7, c8, c9, c10, c11, c12] : List Value) ++ rest).toArray T) (hT : T = 111 ∨ T = 106)
 (hr : Ro base w c0 vals) (hlo : base ≤ b) (hbase : base ≤ w.heap.size) (hlen : vals.length + 1 ≤ 4000000000000) :
 Calls Tryz.prog 175 #[.pointer (some ⟨b, 0, none⟩), .iface 155 (.pointer (some ⟨bv, 0, none⟩))] w (App base w b T (vals ++ [.iface 155 (.pointer (some ⟨bv, 0, none⟩))]) (fun ov => [ov, c1, c2, c3, c4, c5, c6, c7, c8, c9, c10, c11, c12]) rest) := by
 have HT := Lib.hid hT
 have hS0 := Below.refl base w
 have hTn : T ≠ 81 := by rcases hT with rfl | rfl <;> decide
 clear hT
 go_enter func175, ntmps175
 go_upto_region 0 with fail
 refine pR [_, _, .pointer (some ⟨b, 0, none⟩), .pointer (some ⟨b, 0, none⟩)] ?_
 refine Wl.ld (h.cell 0 (c0) (by kernel_rfl)) underlying89 ?_
 refine pP [_] ?_
 refine Wl.step (fun K hK => ?_)
 refine step_new rfl (fun b => .slice (some ⟨b, 0, none⟩) 1 1) (#[.iface 155 (.pointer (some ⟨bv, 0, none⟩))]) 81 (by kernel_rfl) ?_
 intro bl w1 bl_ge bl_lt hl hb1
 obtain ⟨hS1, hz1, hy1⟩ := zC hS0 hb1
 replace h := h.grow hb1
 refine hK _ _ ?_
 clear hK K
 (try simp only [Act.put, zD, zE, zF])
 refine Wl.step (fun K hK => ?_)
 refine step_append_hdr rfl _ _ rfl base c0 (.iface 155 (.pointer (some ⟨bv, 0, none⟩))) vals bl 1 (by kernel_rfl) (by kernel_rfl) hl rfl (hr.grow hb1) (by omega) hlen ?_
 intro ov w2 hro hkh hbl
 obtain ⟨Ao, no, co, rfl⟩ := Ro.shape hro
 have hS2 := hS1.trans hbl
 have h0 := h.kh hkh hTn
 clear h
 have h := h0
 have hy2 := hbl.size
 clear hl
 refine hK _ _ ?_
 clear hK K
 (try simp only [Act.put, zD, zE, zF])
 refine pP [.pointer (some ⟨b, 0, none⟩), .pointer (some ⟨b, 0, none⟩)] ?_
 refine cA 89 b 0 [.slice Ao no co] (([.slice Ao no co, c1, c2, c3, c4, c5, c6, c7, c8, c9, c10, c11, c12] : List Value) ++ rest).toArray T h ?_
 intro w3 h' hO3
 have hS3 := hS2.trans (hO3.below (by omega))
 have hz3 := hS3.size
 clear h
 have h := h'
 clear h'
 have hzz3 := hO3.size
 replace hO3 := Lib.hid hO3
 refine wN ?_
 go_upto_region 1 with fail
 refine pS [_] ?_
 go_upto_region 4 with fail
 refine pS [.tuple #[.pointer none, .bool false], .bool false, .pointer none] ?_
 go_upto_region 8 with fail
 refine pS [.tuple #[.pointer none, .bool false], .bool false, .pointer none] ?_
 go_upto_region 12 with fail
 refine pS [.tuple #[.pointer none, .bool false], .bool false, .pointer none] ?_
 go_upto_region 2 with fail
 refine pS [_] ?_
 go_upto_region 3 with fail
 refine pR [_, _] ?_
 refine cC func206 #[.pointer (some ⟨b, 0, none⟩), .iface 155 (.pointer (some ⟨bv, 0, none⟩))] (setRef_t13 _ b bv T (.slice Ao no co) c1 c2 c3 c4 c5 c6 c7 c8 c9 c10 c11 c12 rest h) ?_
 rintro e w4 ⟨rfl, h4, hO4⟩
 refine cR ?_
 have hS4 := hS3.trans (hO4.below hlo)
 refine wN ?_
 go_wp2
 go_end0
 exact App.mk' (refs := fun ov => [ov, c1, c2, c3, c4, c5, c6, c7, c8, c9, c10, c11, c12]) HT.out hlo hb1 hkh hS2 h0 hro (hO3.out.trans hO4) h4
theorem append_t14 (base : Nat) (w : World) (b bv : Nat) (T : TypeId) (c0 c1 c2 c3 c4 c5 c6 c7 c8 c9 c10 c11 c12 : Value) (rest vals : List Value) (h : Blk w b (([c0, c1, c2, c3, c4, c5, c6, c7, c8, c9, c10, c11, c12] : List Value) ++ rest).toArray T) (hT : T = 111 ∨ T = 106)
 (hr : Ro base w c0 vals) (hlo : base ≤ b) (hbase : base ≤ w.heap.size) (hlen : vals.length + 1 ≤ 4000000000000) :
 Calls Tryz.prog 175 #[.pointer (some ⟨b, 0, none⟩), .iface 157 (.pointer (some ⟨bv, 0, none⟩))] w (App base w b T (vals ++ [.iface 157 (.pointer (some ⟨bv, 0, none⟩))]) (fun ov => [ov, c1, c2, c3, c4, c5, c6, c7, c8, c9, c10, c11, c12]) rest) := by
 have HT := Lib.hid hT
 have hS0 := Below.refl base w
 have hTn : T ≠ 81 := by rcases hT with rfl | rfl <;> decide
 clear hT
 go_enter func175, ntmps175
 go_upto_region 0 with fail
 refine pR [_, _, .pointer (some ⟨b, 0, none⟩), .pointer (some ⟨b, 0, none⟩)] ?_
 refine Wl.ld (h.cell 0 (c0) (by kernel_rfl)) underlying89 ?_
 refine pP [_] ?_
 refine Wl.step (fun K hK => ?_)
 refine step_new rfl (fun b => .slice (some ⟨b, 0, none⟩) 1 1) (#[.iface 157 (.pointer (some ⟨bv, 0, none⟩))]) 81 (by kernel_rfl) ?_
 intro bl w1 bl_ge bl_lt hl hb1
 obtain ⟨hS1, hz1, hy1⟩ := zC hS0 hb1
 replace h := h.grow hb1
 refine hK _ _ ?_
 clear hK K
 (try simp only [Act.put, zD, zE, zF])
 refine Wl.step (fun K hK => ?_)
 refine step_append_hdr rfl _ _ rfl base c0 (.iface 157 (.pointer (some ⟨bv, 0, none⟩))) vals bl 1 (by kernel_rfl) (by kernel_rfl) hl rfl (hr.grow hb1) (by omega) hlen ?_
 intro ov w2 hro hkh hbl
 obtain ⟨Ao, no, co, rfl⟩ := Ro.shape hro
 have hS2 := hS1.trans hbl
 have h0 := h.kh hkh hTn
 clear h
 have h := h0
 have hy2 := hbl.size
 clear hl
 refine hK _ _ ?_
 clear hK K
 (try simp only [Act.put, zD, zE, zF])
 refine pP [.pointer (some ⟨b, 0, none⟩), .pointer (some ⟨b, 0, none⟩)] ?_
 refine cA 89 b 0 [.slice Ao no co] (([.slice Ao no co, c1, c2, c3, c4, c5, c6, c7, c8, c9, c10, c11, c12] : List Value) ++ rest).toArray T h ?_
 intro w3 h' hO3
 have hS3 := hS2.trans (hO3.below (by omega))
 have hz3 := hS3.size
 clear h
 have h := h'
 clear h'
 have hzz3 := hO3.size
 replace hO3 := Lib.hid hO3
 refine wN ?_
 go_upto_region 1 with fail
 refine pS [_] ?_
 go_upto_region 4 with fail
 refine pS [.tuple #[.pointer none, .bool false], .bool false, .pointer none] ?_
 go_upto_region 8 with fail
 refine pS [.tuple #[.pointer none, .bool false], .bool false, .pointer none] ?_
 go_upto_region 12 with fail
 refine pS [.tuple #[.pointer none, .bool false], .bool false, .pointer none] ?_
 go_upto_region 2 with fail
 refine pS [_] ?_
 go_upto_region 3 with fail
 refine pR [_, _] ?_
 refine cC func206 #[.pointer (some ⟨b, 0, none⟩), .iface 157 (.pointer (some ⟨bv, 0, none⟩))] (setRef_t14 _ b bv T (.slice Ao no co) c1 c2 c3 c4 c5 c6 c7 c8 c9 c10 c11 c12 rest h) ?_
 rintro e w4 ⟨rfl, h4, hO4⟩
 refine cR ?_
 have hS4 := hS3.trans (hO4.below hlo)
 refine wN ?_
 go_wp2
 go_end0
 exact App.mk' (refs := fun ov => [ov, c1, c2, c3, c4, c5, c6, c7, c8, c9, c10, c11, c12]) HT.out hlo hb1 hkh hS2 h0 hro (hO3.out.trans hO4) h4
structure HsAt (base : Nat) (w : World) (b : Nat) (T : TypeId) (vals : List Value) (L : List SH) (cp : Bool) (rest : List Value) : Prop where
 blk : ∃ ov, Blk w b (hsCells ov vals L cp ++ rest).toArray T ∧ Ro base w ov vals
 len : vals.length = L.length
 obj : ∀ i, i < L.length → HObj w (vals.getD i .nilIface) (L.getD i default)
 ty : T = 111 ∨ T = 106
 lo : base ≤ b
theorem refV_app {vals : List Value} {L : List SH} (hlen : vals.length = L.length) (v : Value) (x : SH) (k : Nat) :
 refV (vals ++ [v]) (refT (L ++ [x]) k) = if x.t = k ∧ ¬ (firstSort k = true ∧ (refT L k).isSome = true) then ptrOf v else refV vals (refT L k) := by
 have old : ∀ o, refT L k = o → refV (vals ++ [v]) o = refV vals o := by
  intro o ho
  cases o with
  | none => rfl
  | some i =>
    have := refT_lt ho
    simp only [refV, List.getD]
    rw [List.getElem?_append_left (by omega)]
 rw [refT_snoc]
 by_cases h1 : x.t = k
 ·by_cases h2 : firstSort k = true ∧ (refT L k).isSome = true
  ·rw [if_pos h1, if_pos h2, if_neg (by simp [h2]), old _ rfl]
  ·rw [if_pos h1, if_neg h2, if_pos ⟨h1, h2⟩]
   simp [refV, List.getD, ← hlen]
 ·rw [if_neg h1, if_neg (by simp [h1]), old _ rfl]
theorem HsAt.refS {base : Nat} {w : World} {b : Nat} {T : TypeId} {vals : List Value} {L : List SH} {cp : Bool} {rest : List Value} (h : HsAt base w b T vals L cp rest) {t i : Nat} (hr : refT L t = some i) :
 ∃ bx, refV vals (some i) = .pointer (some ⟨bx, 0, none⟩) ∧ vals.getD i .nilIface = .iface (tyP t) (.pointer (some ⟨bx, 0, none⟩)) ∧ HObj w (.iface (tyP t) (.pointer (some ⟨bx, 0, none⟩))) (L.getD i default) := by
 obtain ⟨h1, h2⟩ := refT_lt hr
 have ho := h.obj i h1
 have ho' := ho
 obtain ⟨bx, e, _, _⟩ := ho.shape
 rw [h2] at e
 rw [e] at ho'
 refine ⟨bx, ?_, e, ho'⟩
 simp only [refV, e, ptrOf]
theorem HsAt.appd {base : Nat} {w w' : World} {b : Nat} {T : TypeId} {vals : List Value} {L : List SH} {cp : Bool} {rest : List Value} (h : HsAt base w b T vals L cp rest) {v : Value} {x : SH} (hx : HObj w v x) {refs : Value → List Value} {e : Ending}
 (ha : App base w b T (vals ++ [v]) refs rest e w') (hr : ∀ ov, refs ov = hsCells ov (vals ++ [v]) (L ++ [x]) cp) :
 e = .returned (.tuple #[]) ∧ HsAt base w' b T (vals ++ [v]) (L ++ [x]) cp rest ∧ Kt w w' ∧ Below base w w' := by
 obtain ⟨he, ov, hb, hro, hk, hB⟩ := ha
 rw [hr] at hb
 refine ⟨he, ⟨⟨ov, hb, hro⟩, by simp [h.len], ?_, h.ty, h.lo⟩, hk, hB⟩
 intro i hi
 simp only [List.length_append, List.length_singleton] at hi
 simp only [List.getD]
 by_cases hlt : i < L.length
 ·rw [List.getElem?_append_left (by have := h.len; omega), List.getElem?_append_left hlt]
  exact (h.obj i hlt).kt hk
 ·obtain rfl : i = L.length := by omega
  rw [List.getElem?_append_right (by have := h.len; omega), List.getElem?_append_right (Nat.le_refl _), h.len]
  simpa using hx.kt hk
theorem appendHeader_c (base : Nat) (w : World) (b : Nat) (T : TypeId) (vals : List Value) (L : List SH) (cp : Bool) (rest : List Value) (h : HsAt base w b T vals L cp rest) (v : Value) (x : SH) (hx : HObj w v x)
 (hbase : base ≤ w.heap.size) (hlen : L.length + 1 ≤ 4000000000000) :
 Calls Tryz.prog 175 #[.pointer (some ⟨b, 0, none⟩), v] w fun e w' => e = .returned (.tuple #[]) ∧ HsAt base w' b T (vals ++ [v]) (L ++ [x]) cp rest ∧ Kt w w' ∧ Below base w w' := by
 obtain ⟨ov, hb, hro⟩ := h.blk
 have hlen' : vals.length + 1 ≤ 4000000000000 := by rw [h.len]; exact hlen
 have hx' := hx
 obtain ⟨bv, rfl, _, hs⟩ := hx'.shape
 have hE : ∀ k, refV (vals ++ [.iface (tyP x.t) (.pointer (some ⟨bv, 0, none⟩))]) (refT (L ++ [x]) k) = if x.t = k ∧ ¬ (firstSort k = true ∧ (refT L k).isSome = true) then .pointer (some ⟨bv, 0, none⟩) else refV vals (refT L k) := fun k => refV_app h.len _ x k
 unfold hsCells at hb
 rcases (show x.t = 0 ∨ x.t = 1 ∨ x.t = 2 ∨ x.t = 3 ∨ x.t = 4 ∨ x.t = 5 ∨ x.t = 6 ∨ x.t = 7 ∨ x.t = 8 ∨ x.t = 9 ∨ x.t = 10 ∨ x.t = 11 ∨ x.t = 12 ∨ x.t = 13 ∨ x.t = 14 by omega) with q | q | q | q | q | q | q | q | q | q | q | q | q | q | q
 ·have hT : tyP x.t = tyP 0 := by rw [q]
  rw [hT] at hx hE ⊢
  refine (append_t0 base w b bv T _ _ _ _ _ _ _ _ _ _ _ _ _ rest vals hb h.ty hro h.lo hbase hlen').mono fun e w' ha => h.appd hx ha fun ov => ?_
  simp [hsCells, hE, q, firstSort]
 ·have hT : tyP x.t = tyP 1 := by rw [q]
  rw [hT] at hx hE ⊢
  refine (append_t1 base w b bv T _ _ _ _ _ _ _ _ _ _ _ _ _ rest vals hb h.ty hro h.lo hbase hlen').mono fun e w' ha => h.appd hx ha fun ov => ?_
  simp [hsCells, hE, q, firstSort]
 ·have hT : tyP x.t = tyP 2 := by rw [q]
  rw [hT] at hx hE ⊢
  refine (append_t2 base w b bv T _ _ _ _ _ _ _ _ _ _ _ _ _ rest vals hb h.ty hro h.lo hbase hlen').mono fun e w' ha => h.appd hx ha fun ov => ?_
  simp [hsCells, hE, q, firstSort]
 ·have hT : tyP x.t = tyP 3 := by rw [q]
  rw [hT] at hx hE ⊢
  refine (append_t3 base w b bv T _ _ _ _ _ _ _ _ _ _ _ _ _ rest vals hb h.ty hro h.lo hbase hlen').mono fun e w' ha => h.appd hx ha fun ov => ?_
  simp [hsCells, hE, q, firstSort]
 ·have hT : tyP x.t = tyP 4 := by rw [q]
  rw [hT] at hx hE ⊢
  refine (append_t4 base w b bv T _ _ _ _ _ _ _ _ _ _ _ _ _ rest vals hb h.ty hro h.lo hbase hlen').mono fun e w' ha => h.appd hx ha fun ov => ?_
  simp [hsCells, hE, q, firstSort]
 ·have hT : tyP x.t = tyP 5 := by rw [q]
  rw [hT] at hx hE ⊢
  refine (append_t5 base w b bv T _ _ _ _ _ _ _ _ _ _ _ _ _ rest vals hb h.ty hro h.lo hbase hlen').mono fun e w' ha => h.appd hx ha fun ov => ?_
  simp [hsCells, hE, q, firstSort]
 ·have hT : tyP x.t = tyP 6 := by rw [q]
  rw [hT] at hx hE ⊢
  refine (append_t6 base w b bv T _ _ _ _ _ _ _ _ _ _ _ _ _ rest vals hb h.ty hro h.lo hbase hlen').mono fun e w' ha => h.appd hx ha fun ov => ?_
  simp [hsCells, hE, q, firstSort]
 ·have hT : tyP x.t = tyP 7 := by rw [q]
  rw [hT] at hx hE ⊢
  refine (append_t7 base w b bv T _ _ _ _ _ _ _ _ _ _ _ _ _ rest vals hb h.ty hro h.lo hbase hlen').mono fun e w' ha => h.appd hx ha fun ov => ?_
  simp [hsCells, hE, q, firstSort]
 ·have hT : tyP x.t = tyP 8 := by rw [q]
  rw [hT] at hx hE ⊢
  refine (append_t8 base w b bv T _ _ _ _ _ _ _ _ _ _ _ _ _ rest vals hb h.ty hro h.lo hbase hlen').mono fun e w' ha => h.appd hx ha fun ov => ?_
  simp [hsCells, hE, q, firstSort]
 ·have hT : tyP x.t = tyP 9 := by rw [q]
  cases hq : refT L 9 with
  | none =>
    rw [show refV vals (refT L 9) = .pointer none by rw [hq]; rfl] at hb
    rw [hT] at hx hE ⊢
    refine (append_t9n base w b bv T _ _ _ _ _ _ _ _ _ _ _ _ rest vals hb h.ty hro h.lo hbase hlen').mono fun e w' ha => h.appd hx ha fun ov => ?_
    simp [hsCells, hE, q, firstSort, hq]
  | some i =>
    obtain ⟨bx, hbx, _⟩ := h.refS hq
    rw [show refV vals (refT L 9) = .pointer (some ⟨bx, 0, none⟩) by rw [hq, hbx]] at hb
    rw [hT] at hx hE ⊢
    refine (append_t9s base w b bv bx T _ _ _ _ _ _ _ _ _ _ _ _ rest vals hb h.ty hro h.lo hbase hlen').mono fun e w' ha => h.appd hx ha fun ov => ?_
    simp [hsCells, hE, q, firstSort, hq, hbx]
 ·have hT : tyP x.t = tyP 10 := by rw [q]
  rw [hT] at hx hE ⊢
  refine (append_t10 base w b bv T _ _ _ _ _ _ _ _ _ _ _ _ _ rest vals hb h.ty hro h.lo hbase hlen').mono fun e w' ha => h.appd hx ha fun ov => ?_
  simp [hsCells, hE, q, firstSort]
 ·have hT : tyP x.t = tyP 11 := by rw [q]
  cases hq : refT L 11 with
  | none =>
    rw [show refV vals (refT L 11) = .pointer none by rw [hq]; rfl] at hb
    rw [hT] at hx hE ⊢
    refine (append_t11n base w b bv T _ _ _ _ _ _ _ _ _ _ _ _ rest vals hb h.ty hro h.lo hbase hlen').mono fun e w' ha => h.appd hx ha fun ov => ?_
    simp [hsCells, hE, q, firstSort, hq]
  | some i =>
    obtain ⟨bx, hbx, _⟩ := h.refS hq
    rw [show refV vals (refT L 11) = .pointer (some ⟨bx, 0, none⟩) by rw [hq, hbx]] at hb
    rw [hT] at hx hE ⊢
    refine (append_t11s base w b bv bx T _ _ _ _ _ _ _ _ _ _ _ _ rest vals hb h.ty hro h.lo hbase hlen').mono fun e w' ha => h.appd hx ha fun ov => ?_
    simp [hsCells, hE, q, firstSort, hq, hbx]
 ·have hT : tyP x.t = tyP 12 := by rw [q]
  cases hq : refT L 12 with
  | none =>
    rw [show refV vals (refT L 12) = .pointer none by rw [hq]; rfl] at hb
    rw [hT] at hx hE ⊢
    refine (append_t12n base w b bv T _ _ _ _ _ _ _ _ _ _ _ _ rest vals hb h.ty hro h.lo hbase hlen').mono fun e w' ha => h.appd hx ha fun ov => ?_
    simp [hsCells, hE, q, firstSort, hq]
  | some i =>
    obtain ⟨bx, hbx, _⟩ := h.refS hq
    rw [show refV vals (refT L 12) = .pointer (some ⟨bx, 0, none⟩) by rw [hq, hbx]] at hb
    rw [hT] at hx hE ⊢
    refine (append_t12s base w b bv bx T _ _ _ _ _ _ _ _ _ _ _ _ rest vals hb h.ty hro h.lo hbase hlen').mono fun e w' ha => h.appd hx ha fun ov => ?_
    simp [hsCells, hE, q, firstSort, hq, hbx]
 ·have hT : tyP x.t = tyP 13 := by rw [q]
  rw [hT] at hx hE ⊢
  refine (append_t13 base w b bv T _ _ _ _ _ _ _ _ _ _ _ _ _ rest vals hb h.ty hro h.lo hbase hlen').mono fun e w' ha => h.appd hx ha fun ov => ?_
  simp [hsCells, hE, q, firstSort]
 ·have hT : tyP x.t = tyP 14 := by rw [q]
  rw [hT] at hx hE ⊢
  refine (append_t14 base w b bv T _ _ _ _ _ _ _ _ _ _ _ _ _ rest vals hb h.ty hro h.lo hbase hlen').mono fun e w' ha => h.appd hx ha fun ov => ?_
  simp [hsCells, hE, q, firstSort]
end Go.Proofs.YtfcllhdhfenmcaaGreatDoor
