/- Part 34 of the proof: laws and walks (merged by a program). -/
import Derived.Test.YtfcllhdhfenmcaaGreatDoorK01
import Derived.Test.YtfcllhdhfenmcaaGreatDoorK12
import Derived.Test.YtfcllhdhfenmcaaGreatDoorK19
import Derived.Test.YtfcllhdhfenmcaaGreatDoorK32
import Derived.Test.YtfcllhdhfenmcaaGreatDoorK33
set_option linter.all false
set_option maxHeartbeats 8000000
set_option maxRecDepth 100000
namespace Go.Proofs.YtfcllhdhfenmcaaGreatDoor
open Go.RowKit Go.Proofs.Tryz
theorem itoa_7 : itoaS 7 = ⟨#[55]⟩ := by kernel_rfl
def kSeq : Array Value := #[.int .u32 7, .string ⟨#[73, 78, 86, 73, 84, 69]⟩]
def seqB : List UInt8 := [67, 83, 101, 113, 58, 32, 55, 32, 73, 78, 86, 73, 84, 69]
structure SeqC (w0 : World) (B xb : Nat) (w : World) : Prop where
 cells : ∀ wr, Below B w wr → wr.cell? ⟨xb, 0, none⟩ = some (.int .u32 7) ∧ wr.cell? ⟨xb, 1, none⟩ = some (.string ⟨#[73, 78, 86, 73, 84, 69]⟩)
 itoa : ∀ wr, Below B w wr → Calls Tryz.prog 79 #[.int .i64 7] wr fun e w' => e = .returned (.string ⟨#[55]⟩) ∧ Below wr.heap.size wr w'
theorem SeqC.of {w0 : World} (hE : Env w0) {B xb : Nat} {w : World} (hw : Below w0.heap.size w0 w) (hB0 : w0.heap.size ≤ B) (hxB : xb < B) (hx : Blk w xb kSeq 126) : SeqC w0 B xb w :=
 ⟨fun wr hr => by
  have h2 : Blk wr xb kSeq 126 := (hr.block xb hxB).trans hx
  exact ⟨h2.cell 0 _ rfl, h2.cell 1 _ rfl⟩, fun wr hr => itoa_7 ▸ hE.itoa 7 wr (hw.trans (hr.mono hB0)) (by decide) (by decide)⟩
theorem SeqC.mono {w0 : World} {B xb : Nat} {w w' : World} (h : SeqC w0 B xb w) (hb : Below B w w') : SeqC w0 B xb w' := ⟨fun wr hr => h.cells wr (hb.trans hr), fun wr hr => h.itoa wr (hb.trans hr)⟩
theorem seqValWrite (w0 : World) (B b xb : Nat) (w : World) (hC : SeqC w0 B xb w) (hBw : B ≤ w.heap.size) (hbd : Bd B b [67, 83, 101, 113, 58, 32] w) :
 Calls Tryz.prog 272 #[.pointer (some ⟨xb, 0, none⟩), .iface 134 (.pointer (some ⟨b, 0, none⟩))] w fun e w' => e = .returned (.tuple #[]) ∧ Bd B b seqB w' ∧ Below B w w' := by
 have HC : Hid (∀ wr, Below B w wr → wr.cell? ⟨xb, 0, none⟩ = some (.int .u32 7) ∧ wr.cell? ⟨xb, 1, none⟩ = some (.string ⟨#[73, 78, 86, 73, 84, 69]⟩)) := hC.cells
 have HI := Lib.hid hC.itoa
 have hs0 := Below.refl B w
 clear hC
 go_enter func272, ntmps272
 go_upto_region 0 with fail
 refine wp_region_noPanic ?_
 have hSd0 := hs0.drew
 have hzd0 := hSd0.size
 have hze0 : (w).drew.heap.size = (w).heap.size := rfl
 refine wp_region_held_drew (S := fun w' => Below (B) w w') (by kernel_rfl) hSd0 (fun _ => ?_)
 replace hbd := hbd.grow (below_drew1 _)
 refine tk 0 (.iface 134 (.pointer (some ⟨b, 0, none⟩))) rfl yR hSd0 ?_
 refine tk 1 (.pointer (some ⟨xb, 0, none⟩)) rfl yR hSd0 ?_
 refine tk 2 (.pointer (some ⟨xb, 0, none⟩)) rfl yR hSd0 ?_
 refine tk 3 (.pointer (some ⟨xb, 0, none⟩)) rfl yR hSd0 ?_
 refine tk 4 (.int .u32 7) rfl (yL underlying32 (fun w h => (HC.out w h).1)) hSd0 ?_
 refine tk 5 (.int .i64 7) rfl yR hSd0 ?_
 refine tk 7 (.func (.method "WriteString") #[.iface 134 (.pointer (some ⟨b, 0, none⟩))] #[]) rfl yR hSd0 ?_
 refine tk 8 (.func (.method "WriteString") #[.iface 134 (.pointer (some ⟨b, 0, none⟩))] #[]) rfl yR hSd0 ?_
 refine tk 9 (.iface 134 (.pointer (some ⟨b, 0, none⟩))) rfl yR hSd0 ?_
 refine rd 6 rfl (fun K hK => ?_)
 refine sC func79 #[.int .i64 7] (HI.out w.drew hSd0) ?_
 rintro e w1 ⟨rfl, hb1⟩
 refine ⟨_, rfl, ?_⟩
 obtain ⟨hS1, hz1, hy1⟩ := zC hSd0 hb1
 replace hbd := hbd.grow hb1
 refine sh hK hS1 ?_
 clear hK K
 refine rd 10 rfl (fun K hK => ?_)
 refine step_enter rfl 84 #[.pointer (some ⟨b, 0, none⟩), .string ⟨#[55]⟩] (by kernel_rfl) (writeB B b [67, 83, 101, 113, 58, 32] ⟨#[55]⟩ _ hbd (by decide) (Nat.le_trans hBw hS1.size)) ?_
 rintro e w2 ⟨rfl, hbd', hb2⟩
 refine ⟨_, rfl, ?_⟩
 have hS2 : Below B w w2 := hS1.trans hb2
 clear hbd hb2
 have hbd := hbd'
 clear hbd'
 refine sh hK hS2 ?_
 clear hK K
 refine wpAnyH_done (by kernel_rfl) ?_ _
 refine NoPanic.normal ?_
 go_upto_region 1 with fail
 refine pR [_] ?_
 refine Wl.step (fun K hK => ?_)
 refine step_enter rfl 84 #[.pointer (some ⟨b, 0, none⟩), .string ⟨#[32]⟩] (by kernel_rfl) (writeB B b [67, 83, 101, 113, 58, 32, 55] ⟨#[32]⟩ _ hbd (by decide) (Nat.le_trans hBw hS2.size)) ?_
 rintro e w3 ⟨rfl, hbd', hb3⟩
 refine ⟨_, rfl, ?_⟩
 have hS3 : Below B w w3 := hS2.trans hb3
 clear hbd hb3
 have hbd := hbd'
 clear hbd'
 refine hK _ _ ?_
 clear hK K
 (try simp only [Act.put, zD, zE, zF])
 refine wN ?_
 go_upto_region 2 with fail
 refine wp_region_noPanic ?_
 have hSd2 := hS3.drew
 have hzd2 := hSd2.size
 have hze2 : (w3).drew.heap.size = (w3).heap.size := rfl
 refine wp_region_held_drew (S := fun w' => Below (B) w w') (by kernel_rfl) hSd2 (fun _ => ?_)
 replace hbd := hbd.grow (below_drew1 _)
 refine tk 0 (.iface 134 (.pointer (some ⟨b, 0, none⟩))) rfl yR hSd2 ?_
 refine tk 1 (.pointer (some ⟨xb, 0, none⟩)) rfl yR hSd2 ?_
 refine tk 2 (.pointer (some ⟨xb, 0, none⟩)) rfl yR hSd2 ?_
 refine tk 3 (.pointer (some ⟨xb, 1, none⟩)) rfl yR hSd2 ?_
 refine tk 4 (.string ⟨#[73, 78, 86, 73, 84, 69]⟩) rfl (yL underlying109 (fun w h => (HC.out w h).2)) hSd2 ?_
 refine tk 5 (.func (.method "WriteString") #[.iface 134 (.pointer (some ⟨b, 0, none⟩))] #[]) rfl yR hSd2 ?_
 refine tk 6 (.func (.method "WriteString") #[.iface 134 (.pointer (some ⟨b, 0, none⟩))] #[]) rfl yR hSd2 ?_
 refine tk 7 (.iface 134 (.pointer (some ⟨b, 0, none⟩))) rfl yR hSd2 ?_
 refine rd 8 rfl (fun K hK => ?_)
 refine step_enter rfl 84 #[.pointer (some ⟨b, 0, none⟩), .string ⟨#[73, 78, 86, 73, 84, 69]⟩] (by kernel_rfl) (writeB B b [67, 83, 101, 113, 58, 32, 55, 32] ⟨#[73, 78, 86, 73, 84, 69]⟩ _ hbd (by decide) (Nat.le_trans hBw hSd2.size)) ?_
 rintro e w4 ⟨rfl, hbd', hb4⟩
 refine ⟨_, rfl, ?_⟩
 have hS4 : Below B w w4 := hSd2.trans hb4
 clear hbd hb4
 have hbd := hbd'
 clear hbd'
 refine sh hK hS4 ?_
 clear hK K
 refine wpAnyH_done (by kernel_rfl) ?_ _
 refine NoPanic.normal ?_
 go_wp2
 go_end0
 exact ⟨rfl, hbd, hS4⟩
theorem seqWrite (w0 : World) (B b xb : Nat) (w : World) (hC : SeqC w0 B xb w) (hBw : B ≤ w.heap.size) (hbd : Bd B b [] w) :
 Calls Tryz.prog 269 #[.pointer (some ⟨xb, 0, none⟩), .iface 134 (.pointer (some ⟨b, 0, none⟩))] w fun e w' => e = .returned (.tuple #[]) ∧ Bd B b seqB w' ∧ Below B w w' := by
 have HC : Hid (∀ wr, Below B w wr → wr.cell? ⟨xb, 0, none⟩ = some (.int .u32 7) ∧ wr.cell? ⟨xb, 1, none⟩ = some (.string ⟨#[73, 78, 86, 73, 84, 69]⟩)) := hC.cells
 have HI := Lib.hid hC.itoa
 have hs0 := Below.refl B w
 go_enter func269, ntmps269
 go_upto_region 0 with fail
 refine wp_region_noPanic ?_
 have hSd0 := hs0.drew
 have hzd0 := hSd0.size
 have hze0 : (w).drew.heap.size = (w).heap.size := rfl
 refine wp_region_held_drew (S := fun w' => Below (B) w w') (by kernel_rfl) hSd0 (fun _ => ?_)
 replace hbd := hbd.grow (below_drew1 _)
 refine tk 0 (.iface 134 (.pointer (some ⟨b, 0, none⟩))) rfl yR hSd0 ?_
 refine tk 1 (.pointer (some ⟨xb, 0, none⟩)) rfl yR hSd0 ?_
 refine tk 3 (.func (.method "WriteString") #[.iface 134 (.pointer (some ⟨b, 0, none⟩))] #[]) rfl yR hSd0 ?_
 refine tk 4 (.func (.method "WriteString") #[.iface 134 (.pointer (some ⟨b, 0, none⟩))] #[]) rfl yR hSd0 ?_
 refine tk 5 (.iface 134 (.pointer (some ⟨b, 0, none⟩))) rfl yR hSd0 ?_
 refine rd 2 rfl (fun K hK => ?_)
 refine sC func267 #[.pointer (some ⟨xb, 0, none⟩)] (name_t5 _ xb) ?_
 rintro e w1 ⟨rfl, hwe⟩
 refine ⟨_, rfl, ?_⟩
 have hS1 := hSd0
 rw [hwe] at hS1 hbd
 clear hwe
 refine sh hK hS1 ?_
 clear hK K
 refine rd 6 rfl (fun K hK => ?_)
 refine step_enter rfl 84 #[.pointer (some ⟨b, 0, none⟩), .string ⟨#[67, 83, 101, 113]⟩] (by kernel_rfl) (writeB B b [] ⟨#[67, 83, 101, 113]⟩ _ hbd (by decide) (Nat.le_trans hBw hS1.size)) ?_
 rintro e w2 ⟨rfl, hbd', hb2⟩
 refine ⟨_, rfl, ?_⟩
 have hS2 : Below B w w2 := hS1.trans hb2
 clear hbd hb2
 have hbd := hbd'
 clear hbd'
 refine sh hK hS2 ?_
 clear hK K
 refine wpAnyH_done (by kernel_rfl) ?_ _
 refine NoPanic.normal ?_
 go_upto_region 1 with fail
 refine pR [_] ?_
 refine Wl.step (fun K hK => ?_)
 refine step_enter rfl 84 #[.pointer (some ⟨b, 0, none⟩), .string ⟨#[58, 32]⟩] (by kernel_rfl) (writeB B b [67, 83, 101, 113] ⟨#[58, 32]⟩ _ hbd (by decide) (Nat.le_trans hBw hS2.size)) ?_
 rintro e w3 ⟨rfl, hbd', hb3⟩
 refine ⟨_, rfl, ?_⟩
 have hS3 : Below B w w3 := hS2.trans hb3
 clear hbd hb3
 have hbd := hbd'
 clear hbd'
 refine hK _ _ ?_
 clear hK K
 (try simp only [Act.put, zD, zE, zF])
 refine wN ?_
 go_upto_region 2 with fail
 refine pR [_, _] ?_
 refine cC func272 #[.pointer (some ⟨xb, 0, none⟩), .iface 134 (.pointer (some ⟨b, 0, none⟩))] (seqValWrite w0 B b xb _ (hC.mono hS3) (Nat.le_trans hBw hS3.size) hbd) ?_
 rintro e w4 ⟨rfl, hbd', hb4⟩
 refine cR ?_
 have hS4 : Below B w w4 := hS3.trans hb4
 clear hbd hb4
 have hbd := hbd'
 clear hbd'
 refine wN ?_
 go_wp2
 go_end0
 exact ⟨rfl, hbd, hS4⟩
theorem seqString_c (w0 : World) (hE : Env w0) (xb : Nat) (w : World) (hw : Below w0.heap.size w0 w) (hx : Blk w xb kSeq 126) :
 Calls Tryz.prog 268 #[.pointer (some ⟨xb, 0, none⟩)] w fun e w' => e = .returned (.string ⟨seqB.toArray⟩) ∧ Below w.heap.size w w' := by
 have hxl := hx.lt
 go_enter func268, ntmps268
 have hs0 := Below.refl w.heap.size w
 go_upto_region 2 with fail
 have hbd := Bd.new w
 have hB1 := below_alloc1 w (.cells #[.pointer none, .slice none 0 0] 136)
 have hx1 := hx.grow hB1
 obtain ⟨w1, hw1⟩ : ∃ W, W = w.alloc (.cells #[.pointer none, .slice none 0 0] 136) := ⟨_, rfl⟩
 rw [← hw1] at hbd hB1 hx1 ⊢
 clear hw1 hx
 have hE1 := SeqC.of hE (hw.trans (hB1.mono hw.size)) hw.size hxl hx1
 go_upto_region 2 with fail
 refine pR [_, .iface 134 (.pointer (some ⟨w.heap.size, 0, none⟩))] ?_
 refine cC func269 #[.pointer (some ⟨xb, 0, none⟩), .iface 134 (.pointer (some ⟨w.heap.size, 0, none⟩))] (seqWrite w0 w.heap.size w.heap.size xb _ hE1 hB1.size hbd) ?_
 rintro e w2 ⟨rfl, hbd', hb2⟩
 refine cR ?_
 have hS2 : Below w.heap.size w w2 := hB1.trans hb2
 clear hbd hx1 hE1 hb2
 have hbd := hbd'
 clear hbd'
 refine wN ?_
 go_upto_region 3 with fail
 apply wR
 refine cC func73 #[.pointer (some ⟨w.heap.size, 0, none⟩)] (stringB w.heap.size w.heap.size seqB _ hbd (by have := hS2.size; omega)) ?_
 rintro e w3 ⟨rfl, hb3⟩
 refine cR ?_
 have hS3 : Below w.heap.size w w3 := hS2.trans hb3
 clear hb3
 refine pQ [_] ?_
 go_wp2
 go_ret
 exact ⟨rfl, hS3⟩
theorem seqValue_c (w0 : World) (hE : Env w0) (xb : Nat) (w : World) (hw : Below w0.heap.size w0 w) (hx : Blk w xb kSeq 126) :
 Calls Tryz.prog 270 #[.pointer (some ⟨xb, 0, none⟩)] w fun e w' => e = .returned (.string ⟨#[55, 32, 73, 78, 86, 73, 84, 69]⟩) ∧ Below w.heap.size w w' := by
 have hC := SeqC.of hE hw hw.size hx.lt hx
 have HC := Lib.hid hC.cells
 have HI := Lib.hid hC.itoa
 clear hC
 have hs0 := Below.refl w.heap.size w
 go_enter func270, ntmps270
 go_upto_region 0 with fail
 refine pS [_] ?_
 go_upto_region 1 with fail
 refine wp_region_noPanic ?_
 have hSd1 := hs0.drew
 have hzd1 := hSd1.size
 have hze1 : (w).drew.heap.size = (w).heap.size := rfl
 refine wp_region_held_drew (S := fun w' => Below (w.heap.size) w w') (by kernel_rfl) hSd1 (fun _ => ?_)
 refine tk 0 (.pointer (some ⟨xb, 0, none⟩)) rfl yR hSd1 ?_
 refine tk 1 (.pointer (some ⟨xb, 0, none⟩)) rfl yR hSd1 ?_
 refine tk 2 (.pointer (some ⟨xb, 0, none⟩)) rfl yR hSd1 ?_
 refine tk 3 (.int .u32 7) rfl (yL underlying32 (fun w h => (HC.out w h).1)) hSd1 ?_
 refine tk 4 (.int .i64 7) rfl yR hSd1 ?_
 refine tk 7 (.pointer (some ⟨xb, 0, none⟩)) rfl yR hSd1 ?_
 refine tk 8 (.pointer (some ⟨xb, 0, none⟩)) rfl yR hSd1 ?_
 refine tk 9 (.pointer (some ⟨xb, 1, none⟩)) rfl yR hSd1 ?_
 refine tk 10 (.string ⟨#[73, 78, 86, 73, 84, 69]⟩) rfl (yL underlying109 (fun w h => (HC.out w h).2)) hSd1 ?_
 refine rd 5 rfl (fun K hK => ?_)
 refine sC func79 #[.int .i64 7] (HI.out w.drew hSd1) ?_
 rintro e w1 ⟨rfl, hb1⟩
 refine ⟨_, rfl, ?_⟩
 obtain ⟨hS1, hz1, hy1⟩ := zC hSd1 hb1
 refine sh hK hS1 ?_
 clear hK K
 refine tk 6 (.string ⟨#[55, 32]⟩) rfl yR hS1 ?_
 refine tk 11 (.string ⟨#[55, 32, 73, 78, 86, 73, 84, 69]⟩) rfl yR hS1 ?_
 refine tk 12 (.string ⟨#[55, 32, 73, 78, 86, 73, 84, 69]⟩) rfl yR hS1 ?_
 refine wpAnyH_done (by kernel_rfl) ?_ _
 refine NoPanic.normal ?_
 go_wp2
 go_ret
 exact ⟨rfl, hS1⟩
def knownHd : Hd := { (default : Hd) with t := 5, num := 7, text := [73, 78, 86, 73, 84, 69] }
theorem knownHd_small : knownHd.uri.Small := by constructor <;> first | decide | (constructor <;> first | decide | (intro x hx; cases hx))
theorem seq_obj {w : World} {v : Value} {u : SU} (h : HObj w v (toSHu knownHd u)) : ∃ b, v = .iface 95 (.pointer (some ⟨b, 0, none⟩)) ∧ Blk w b kSeq 126 := by
 obtain ⟨b, cs, rfl, h1, h2⟩ := h
 obtain ⟨h3, _, _⟩ := h2.seq rfl
 subst h3
 exact ⟨b, rfl, h1⟩
theorem headTextK_c (w0 : World) (hE : Env w0) (cs : Array Value) (w : World) (hw : Below w0.heap.size w0 w) (h : HdR w cs knownHd) : Calls Tryz.prog 24 #[.agg cs] w fun e w' => ∃ v v2, e = .returned (.tuple #[v, v2]) ∧ Bs w' v seqB ∧ Below w.heap.size w w' := by
 have hk := h.size
 go_enter func24, ntmps24
 go_upto_region 1 with fail
 obtain ⟨w1, hw1⟩ : ∃ W, W = w.alloc (.cells cs 34) := ⟨_, rfl⟩
 have hbk : Blk w1 w.heap.size cs 34 := by rw [hw1]; exact Blk.new w _ _
 have hB1 : Below w.heap.size w w1 := by rw [hw1]; exact below_alloc1 w _
 have hz1 : w.heap.size + 1 ≤ w1.heap.size := hbk.lt
 rw [← hw1]
 clear hw1
 have hu := h.grow hB1
 have HC : Hid (∀ wr, Below (w.heap.size + 1) w1 wr → ∀ j v, cs[j]? = some v → wr.cell? ⟨w.heap.size, 0 + j, none⟩ = some v) := fun wr hr => by
  have h2 : Blk wr w.heap.size cs 34 := (hr.block w.heap.size (by omega)).trans hbk
  exact h2.cells
 have hs1 := Below.refl (w.heap.size + 1) w1
 have hq1 := hw.trans (hB1.mono hw.size)
 clear h hbk
 go_upto_region 1 with fail
 apply wR
 refine yb (.agg (cs)) hs1 (yA 34 w.heap.size 0 cs underlying34 (by rw [hk]; kernel_rfl) (fun w h => HC.out w h)) ?_
 refine cC func50 #[.agg cs] (header_c cs knownHd _ hu (addrAll (hE.mono hq1) _ knownHd_small) (by unfold Hid; decide)) ?_
 rintro e w2 ⟨v6, u6, rfl, hob, _, hb2⟩
 refine cR ?_
 obtain ⟨xb, rfl, hxb⟩ := seq_obj hob
 have hS2 := hs1.trans (hb2.mono (by omega))
 have hq2 := hq1.trans (hb2.mono hq1.size)
 clear hob
 have hy2 := hb2.size
 refine pQ [_] ?_
 go_upto_region 2 with fail
 refine pR [_] ?_
 refine Wl.step (fun K hK => ?_)
 refine step_enter rfl 268 #[.pointer (some ⟨xb, 0, none⟩)] (by kernel_rfl) (seqString_c w0 hE xb _ hq2 hxb) ?_
 rintro e w3 ⟨rfl, hb3⟩
 refine ⟨_, rfl, ?_⟩
 have hS3 := hS2.trans (hb3.mono (by omega))
 replace hxb := hxb.grow hb3
 have hq3 := hq2.trans (hb3.mono hq2.size)
 have hy3 := hb3.size
 refine hK _ _ ?_
 clear hK K
 (try simp only [Act.put, zD, zE, zF])
 refine Wl.step (fun K hK => ?_)
 refine st_conv 9 22 5 rfl (s := ⟨seqB.toArray⟩) (by kernel_rfl) (by decide) underlying9 underlying22 underlying5 ?_
 intro v9 w4 q9 hb4
 have hS4 := hS3.trans (hb4.mono (by omega))
 replace hxb := hxb.grow hb4
 have hq4 := hq3.trans (hb4.mono hq3.size)
 have hy4 := hb4.size
 refine hK _ _ ?_
 clear hK K
 (try simp only [Act.put, zD, zE, zF])
 refine pP [_] ?_
 refine Wl.step (fun K hK => ?_)
 refine step_enter rfl 270 #[.pointer (some ⟨xb, 0, none⟩)] (by kernel_rfl) (seqValue_c w0 hE xb _ hq4 hxb) ?_
 rintro e w5 ⟨rfl, hb5⟩
 refine ⟨_, rfl, ?_⟩
 have hS5 := hS4.trans (hb5.mono (by omega))
 replace q9 := q9.grow hb5
 have hy5 := hb5.size
 refine hK _ _ ?_
 clear hK K
 (try simp only [Act.put, zD, zE, zF])
 refine Wl.step (fun K hK => ?_)
 refine st_conv 9 22 5 rfl (s := ⟨#[55, 32, 73, 78, 86, 73, 84, 69]⟩) (by kernel_rfl) (by decide) underlying9 underlying22 underlying5 ?_
 intro v12 w6 q12 hb6
 have hS6 := hS5.trans (hb6.mono (by omega))
 replace q9 := q9.grow hb6
 refine hK _ _ ?_
 clear hK K
 (try simp only [Act.put, zD, zE, zF])
 refine pQ [_, _] ?_
 go_wp2
 go_ret2
 exact ⟨_, ⟨_, rfl⟩, q9, hB1.trans (hS6.mono (by omega))⟩
def sameKVB (x y : KV) : Bool := equalB x.k y.k && equalB x.v y.v
def sameKVsB (a b : List KV) : Bool := decide (a.length = b.length ∧ ∀ i, i < a.length → sameKVB (kvAt a i) (kvAt b i) = true)
theorem sameKVsB_not {a b : List KV} (i : Nat) (hi : i < a.length) (h : sameKVB (kvAt a i) (kvAt b i) = false) : sameKVsB a b = false := by
 unfold sameKVsB
 rw [decide_eq_false_iff_not]
 rintro ⟨_, hh⟩
 rw [hh i hi] at h
 cases h
theorem sameKVs_c (u v : Value) (a b : List KV) (w : World) (ha : KVs w u a) (hb : KVs w v b) : Calls Tryz.prog 53 #[u, v] w fun e w' => e = .returned (.bool (sameKVsB a b)) ∧ ∃ n, w' = w.drewN n := by
 obtain ⟨A, cp, rfl, h1, h2, h3⟩ := ha
 obtain ⟨B, cq, rfl, h4, h5, h6⟩ := hb
 have H3 := Lib.hid h3; clear h3
 have H6 := Lib.hid h6; clear h6
 by_cases hl : a.length = b.length
 ·have hne : ((a.length : Int) != (b.length : Int)) = false := by rw [hl]; simp
  have HL := Lib.hid hl; clear hl
  go_enter func53, ntmps53
  go_wp2
  go_loopw [5] (fun v wr => ∃ k n : Nat, k ≤ a.length ∧ v = .int .i64 k ∧ wr = w.drewN n ∧ Hid (∀ j, j < k → sameKVB (kvAt a j) (kvAt b j) = true)) (fun v _ => a.length - (intOf v).toNat)
  case atStart => exact ⟨0, 0, Nat.zero_le _, rfl, rfl, fun j hj => by omega⟩
  case round =>
   obtain ⟨k, n, hk, rfl, rfl, hall⟩ := hrel
   by_cases hlt : k < a.length
   ·obtain ⟨ba, oa, rfl, _, hca⟩ := H3.out (by omega)
    obtain ⟨bb, ob, rfl, _, hcb⟩ := H6.out (by have := HL.out; omega)
    obtain ⟨ka, va, e1, e2, r1, r2⟩ := hca k hlt
    obtain ⟨kb, vb, f1, f2, q1, q2⟩ := hcb k (by have := HL.out; omega)
    clear hca hcb
    have hlt' : (k : Int) < (a.length : Int) := by omega
    have hlt2 : (k : Int) < (b.length : Int) := by have := HL.out; omega
    obtain ⟨wo, hwo⟩ : ∃ wo : World, wo = w.drewN n := ⟨_, rfl⟩
    have e1' : wo.cell? ⟨ba, oa + k * 2, none⟩ = some ka := by rw [hwo]; exact e1
    have e2' : wo.cell? ⟨ba, oa + k * 2 + 1, none⟩ = some va := by rw [hwo]; exact e2
    have f1' : wo.cell? ⟨bb, ob + k * 2, none⟩ = some kb := by rw [hwo]; exact f1
    have f2' : wo.cell? ⟨bb, ob + k * 2 + 1, none⟩ = some vb := by rw [hwo]; exact f2
    have r1' : Bs wo ka (kvAt a k).k := by rw [hwo]; exact r1.drewN n
    have r2' : Bs wo va (kvAt a k).v := by rw [hwo]; exact r2.drewN n
    have q1' : Bs wo kb (kvAt b k).k := by rw [hwo]; exact q1.drewN n
    have q2' : Bs wo vb (kvAt b k).v := by rw [hwo]; exact q2.drewN n
    rw [← hwo]
    have HW := Lib.hid hwo; clear hwo e1 e2 f1 f2 r1 r2 q1 q2
    cases hK : equalB (kvAt a k).k (kvAt b k).k
    ·have HK := Lib.hid hK; clear hK
     go_wp2
     go_quiet ((go_at_call 12; refine (equal_c _ _ _ _ _ (r1'.drewN _) (q1'.drewN _)).mono ?_; intro e w' h; obtain ⟨he, q, hq⟩ := h; rw [HK.out] at he; exact ⟨he, _, by first | rw [hq, World.drewN_drewN] | rw [hq, World.drewN_drewN, Nat.add_assoc]⟩))
     go_wp2
     go_ret
     exact ⟨ret_bool (by rw [sameKVsB_not k hlt (by rw [sameKVB, HK.out]; rfl)]), _, by rw [HW.out, World.drewN_drewN]⟩
    ·have HK := Lib.hid hK; clear hK
     cases hV : equalB (kvAt a k).v (kvAt b k).v
     all_goals
      have HV := Lib.hid hV; clear hV
      go_wp2
      go_quiet ((go_at_call 12; (first | (with_reducible refine (equal_c _ _ _ _ _ (r1'.drewN _) (q1'.drewN _)).mono ?_) | (with_reducible refine (equal_c _ _ _ _ _ (r2'.drewN _) (q2'.drewN _)).mono ?_)); intro e w' h; obtain ⟨he, q, hq⟩ := h; (first | rw [HK.out] at he | rw [HV.out] at he); exact ⟨he, _, by first | rw [hq, World.drewN_drewN] | rw [hq, World.drewN_drewN, Nat.add_assoc]⟩))
      go_wp2
     ·go_ret
      exact ⟨ret_bool (by rw [sameKVsB_not k hlt (by rw [sameKVB, HK.out, HV.out]; rfl)]), _, by rw [HW.out, World.drewN_drewN]⟩
     ·go_roundw
      case rel => exact ⟨k + 1, _, by omega, by go_num, by rw [HW.out, World.drewN_drewN], hid_succ hall (by rw [sameKVB, HK.out, HV.out]; rfl)⟩
      case measure => simp [intOf]; omega
   ·obtain rfl : k = a.length := by omega
    go_wp2
    go_ret
    exact ⟨ret_bool (by unfold sameKVsB; rw [eq_comm, decide_eq_true_eq]; exact ⟨HL.out, hall.out⟩), _, rfl⟩
 ·have hne : ((a.length : Int) != (b.length : Int)) = true := by simp; omega
  have HL := Lib.hid hl; clear hl
  go_enter func53, ntmps53
  go_wp2
  go_ret
  exact ⟨ret_bool (by unfold sameKVsB; rw [eq_comm, decide_eq_false_iff_not]; exact fun h => HL.out h.1), 0, rfl⟩
theorem equalB_refl (l : By) : equalB l l = true := equalB_of rfl fun _ _ => rfl
theorem sameKVsB_refl (l : List KV) : sameKVsB l l = true := by
 unfold sameKVsB
 rw [decide_eq_true_eq]
 exact ⟨rfl, fun i _ => by rw [sameKVB, equalB_refl, equalB_refl]; rfl⟩
theorem equal_q (u v : Value) (l : By) (w : World) (ha : Bs w u l) (hb : Bs w v l) : Calls Tryz.prog 12 #[u, v] w fun e w' => e = .returned (.bool true) ∧ ∃ n, w' = w.drewN n :=
 (equal_c u v l l w ha hb).mono fun _ _ h => ⟨by rw [h.1, equalB_refl], h.2⟩
theorem sameKVs_q (u v : Value) (l : List KV) (w : World) (ha : KVs w u l) (hb : KVs w v l) : Calls Tryz.prog 53 #[u, v] w fun e w' => e = .returned (.bool true) ∧ ∃ n, w' = w.drewN n :=
 (sameKVs_c u v l l w ha hb).mono fun _ _ h => ⟨by rw [h.1, sameKVsB_refl], h.2⟩
theorem sameUri_c (cs ds : Array Value) (u : Ur) (w : World) (h : UrR w cs u) (k : UrR w ds u) :
 Calls Tryz.prog 26 #[.agg cs, .agg ds] w fun e w' => e = .returned (.bool true) ∧ Below w.heap.size w w' := by
 obtain ⟨A0, n0, A1, n1, A4, n4, A5, n5, A6, n6, A8, n8, A9, n9, e0, e1, e4, e5, e6, e8, e9, r0, r1, r4, r5, r6, r8, r9⟩ := h.shapes
 obtain ⟨B0, m0, B1, m1, B4, m4, B5, m5, B6, m6, B8, m8, B9, m9, f0, f1, f4, f5, f6, f8, f9, q0, q1, q4, q5, q6, q8, q9⟩ := k.shapes
 have e2 := h.star
 have e3 := h.slashes
 have e7 := h.port
 have f2 := k.star
 have f3 := k.slashes
 have f7 := k.port
 clear h k
 obtain ⟨W0, hW0⟩ : ∃ W0, W0 = (w.alloc (.cells cs 25)).alloc (.cells ds 25) := ⟨_, rfl⟩
 have hB : Below w.heap.size w W0 := by rw [hW0]; exact (below_alloc w _).trans ((below_alloc _ _).mono (by simp))
 replace r0 := r0.grow hB
 replace r1 := r1.grow hB
 replace r4 := r4.grow hB
 replace r5 := r5.grow hB
 replace r6 := r6.grow hB
 replace r8 := r8.grow hB
 replace r9 := r9.grow hB
 replace q0 := q0.grow hB
 replace q1 := q1.grow hB
 replace q4 := q4.grow hB
 replace q5 := q5.grow hB
 replace q6 := q6.grow hB
 replace q8 := q8.grow hB
 replace q9 := q9.grow hB
 have HW := Lib.hid hW0
 rw [hW0] at hB r0 r1 r4 r5 r6 r8 r9 q0 q1 q4 q5 q6 q8 q9
 clear hW0
 go_enter func26, ntmps26
 go_wp2_with (first
  | (go_at_call 12; (first | (with_reducible refine (equal_q _ _ _ _ r0 q0).mono ?_) | (with_reducible refine (equal_q _ _ _ _ (r0.drewN _) (q0.drewN _)).mono ?_) | (with_reducible refine (equal_q _ _ _ _ r1 q1).mono ?_) | (with_reducible refine (equal_q _ _ _ _ (r1.drewN _) (q1.drewN _)).mono ?_) | (with_reducible refine (equal_q _ _ _ _ r4 q4).mono ?_) | (with_reducible refine (equal_q _ _ _ _ (r4.drewN _) (q4.drewN _)).mono ?_) | (with_reducible refine (equal_q _ _ _ _ r5 q5).mono ?_) | (with_reducible refine (equal_q _ _ _ _ (r5.drewN _) (q5.drewN _)).mono ?_) | (with_reducible refine (equal_q _ _ _ _ r6 q6).mono ?_) | (with_reducible refine (equal_q _ _ _ _ (r6.drewN _) (q6.drewN _)).mono ?_)); rintro e w1 ⟨rfl, n, rfl⟩)
  | (go_at_call 53; (first | (with_reducible refine (sameKVs_q _ _ _ _ r8 q8).mono ?_) | (with_reducible refine (sameKVs_q _ _ _ _ (r8.drewN _) (q8.drewN _)).mono ?_) | (with_reducible refine (sameKVs_q _ _ _ _ r9 q9).mono ?_) | (with_reducible refine (sameKVs_q _ _ _ _ (r9.drewN _) (q9.drewN _)).mono ?_)); rintro e w1 ⟨rfl, n, rfl⟩))
 go_ret
 exact ⟨rfl, by first | exact hB.trans ((below_drewN _ _).mono (by first | (simp; done) | (simp; omega))) | (simp only [World.drewN_drewN]; exact hB.trans ((below_drewN _ _).mono (by first | (simp; done) | (simp; omega))))⟩
theorem knownHd_R {w : World} {v : Value} (h : Bs w v [73, 78, 86, 73, 84, 69]) : HdR w #[.int .i64 5, .slice none 0 0, v, .slice none 0 0, .slice none 0 0, .slice none 0 0, .bool false, .bool false, .slice none 0 0, .slice none 0 0, .slice none 0 0, .int .i64 0, .slice none 0 0, .slice none 0 0, .slice none 0 0, .int .u32 7, .slice none 0 0, .slice none 0 0, .slice none 0 0, .slice none 0 0, .int .i64 0] knownHd := by
 have hu : UrR w #[.slice none 0 0, .slice none 0 0, .bool false, .bool false, .slice none 0 0, .slice none 0 0, .slice none 0 0, .int .i64 0, .slice none 0 0, .slice none 0 0] knownHd.uri := ⟨rfl, ⟨_, rfl, bs_nil w⟩, ⟨_, rfl, bs_nil w⟩, rfl, rfl, ⟨_, rfl, bs_nil w⟩, ⟨_, rfl, bs_nil w⟩, ⟨_, rfl, bs_nil w⟩, rfl, ⟨_, rfl, kvs_nil w⟩, ⟨_, rfl, kvs_nil w⟩, by decide, by decide⟩
 constructor
 case uri => exact hu
 all_goals first | rfl | exact ⟨_, rfl, h⟩ | exact ⟨_, rfl, bs_nil w⟩ | exact ⟨_, rfl, kvs_nil w⟩ | decide
theorem known_c (w0 : World) (hE : Env w0) (w : World) (hw : Below w0.heap.size w0 w) : Calls Tryz.prog 7 #[] w fun e w' => e = .returned (.bool true) ∧ Below w.heap.size w w' := by
 go_enter func7, ntmps7
 have hs0 := Below.refl w.heap.size w
 go_upto_region 0 with fail
 refine pS [_] ?_
 go_upto_region 1 with fail
 apply wR
 refine cC func22 #[.string ⟨#[98, 111, 98]⟩, .string ⟨#[98, 46, 111, 114, 103]⟩, .int .i64 5070] (uriK_c _) ?_
 rintro e w1 ⟨cs1, rfl, hu1, hb1⟩
 refine cR ?_
 have hS1 := zA hs0 hb1
 have hl1 := UrL.of hu1
 clear hu1
 have hz6 := hb1.size
 refine cN #[.slice none 0 0, .slice none 0 0, .bool false, .bool false, .slice none 0 0, .slice none 0 0, .slice none 0 0, .int .i64 0, .slice none 0 0, .slice none 0 0] 25 ?_
 intro ba w2 ba_ge ba_lt hba hb2
 obtain ⟨hS2, hz2, hy2⟩ := zC hS1 hb2
 replace hl1 := hl1.grow hb2
 refine wP ?_
 refine Wl.step (fun K hK => ?_)
 refine step_store_row rfl 25 _ _ rfl ba cs1 (by kernel_rfl) (by kernel_rfl) 25 (by rw [hl1.ur.size]; exact hba.row) (by rw [hl1.ur.size]; kernel_rfl) hl1.ur.one ?_
 have hq := hba.set cs1
 have hO := oth_setRow w2 ba cs1
 have hS3 := hS2.trans (hO.below (B := w.heap.size) (by omega))
 replace hl1 := hl1.sto hO
 have hz := setRow_size w2 ba cs1
 obtain ⟨w3, hw'⟩ : ∃ W, W = World.setRow w2 ba cs1 := ⟨_, rfl⟩
 rw [← hw'] at hq hz hS3 hl1  ⊢
 clear hba
 clear hO hw'
 have khba := hq
 clear hq
 refine hK _ _ ?_
 clear hK K
 (try simp only [Act.put, zD, zE, zF])
 refine wN ?_
 go_upto_region 2 with fail
 apply wR
 refine Wl.step (fun K hK => ?_)
 refine step_new rfl (fun b => .slice (some ⟨b, 0, none⟩) 18 18) (#[.int .u8 115, .int .u8 105, .int .u8 112, .int .u8 58, .int .u8 98, .int .u8 111, .int .u8 98, .int .u8 64, .int .u8 98, .int .u8 46, .int .u8 111, .int .u8 114, .int .u8 103, .int .u8 58, .int .u8 53, .int .u8 48, .int .u8 55, .int .u8 48]) 5 (by kernel_rfl) ?_
 intro b8 w4 b8_ge b8_lt hb8 hb4
 obtain ⟨hS4, hz4, hy4⟩ := zC hS3 hb4
 replace hl1 := hl1.grow hb4
 replace khba := khba.grow hb4
 refine hK _ _ ?_
 clear hK K
 (try simp only [Act.put, zD, zE, zF])
 refine Wl.step (fun K hK => ?_)
 refine step_const rfl 22 5 _ rfl b8 18 18 _ (by kernel_rfl) underlying22 underlying5 hb8 ?_
 intro w5 hO h8
 replace khba := khba.oth hO (show ba ≠ b8 by omega)
 replace hl1 := hl1.sto hO
 have hS5 := hS4.trans (hO.below (B := w.heap.size) (by omega))
 have q8 := bs_row knownB rfl h8 (by decide)
 clear hb8
 have hz8 := hO.size
 clear hO
 clear h8
 refine hK _ _ ?_
 clear hK K
 (try simp only [Act.put, zD, zE, zF])
 refine cC func23 #[.slice (some ⟨b8, 0, none⟩) 18 18] (parseUriK_c w0 hE _ _ (hw.trans (hS5.mono hw.size)) q8) ?_
 rintro e w6 ⟨cs2, rfl, hu2, hb6⟩
 refine cR ?_
 have hS6 := zA hS5 hb6
 replace khba := khba.grow hb6
 replace hl1 := hl1.grow hb6
 have hl2 := UrL.of hu2
 clear hu2
 have hz9 := hb6.size
 refine pP [_, .agg cs2, .bool true] ?_
 refine cN #[.slice none 0 0, .slice none 0 0, .bool false, .bool false, .slice none 0 0, .slice none 0 0, .slice none 0 0, .int .i64 0, .slice none 0 0, .slice none 0 0] 25 ?_
 intro bb w7 bb_ge bb_lt hbb hb7
 obtain ⟨hS7, hz7, hy7⟩ := zC hS6 hb7
 replace hl1 := hl1.grow hb7
 replace khba := khba.grow hb7
 replace hl2 := hl2.grow hb7
 refine wP ?_
 refine Wl.step (fun K hK => ?_)
 refine step_store_row rfl 25 _ _ rfl bb cs2 (by kernel_rfl) (by kernel_rfl) 25 (by rw [hl2.ur.size]; exact hbb.row) (by rw [hl2.ur.size]; kernel_rfl) hl2.ur.one ?_
 have hq := hbb.set cs2
 have hO := oth_setRow w7 bb cs2
 have hS8 := hS7.trans (hO.below (B := w.heap.size) (by omega))
 replace hl2 := hl2.sto hO
 replace hl1 := hl1.sto hO
 replace khba := khba.oth hO (by omega)
 have hz := setRow_size w7 bb cs2
 obtain ⟨w8, hw'⟩ : ∃ W, W = World.setRow w7 bb cs2 := ⟨_, rfl⟩
 rw [← hw'] at hq hz hS8 hl2 hl1 khba ⊢
 clear hbb
 clear hO hw'
 have khbb := hq
 clear hq
 refine hK _ _ ?_
 clear hK K
 (try simp only [Act.put, zD, zE, zF])
 refine pQ [_] ?_
 have hu1 := hl1.ur
 have hu2 := hl2.ur
 have HC1 : Hid (∀ wr, Below w8.heap.size w8 wr → ∀ j v, cs1[j]? = some v → wr.cell? ⟨ba, 0 + j, none⟩ = some v) := fun wr hr => (khba.grow hr).cells
 have HC2 : Hid (∀ wr, Below w8.heap.size w8 wr → ∀ j v, cs2[j]? = some v → wr.cell? ⟨bb, 0 + j, none⟩ = some v) := fun wr hr => (khbb.grow hr).cells
 have hr0 := Below.refl w8.heap.size w8
 have hq8 := hw.trans (hS8.mono hw.size)
 have k1 := hu1.size
 have k2 := hu2.size
 clear khba khbb hl1 hl2 q8 hb1 hS1 hb2 hS2 hS3
 go_upto_region 3 with fail
 apply wR
 refine Wl.step (fun K hK => ?_)
 refine step_new rfl (fun b => .slice (some ⟨b, 0, none⟩) 6 6) (#[.int .u8 73, .int .u8 78, .int .u8 86, .int .u8 73, .int .u8 84, .int .u8 69]) 5 (by kernel_rfl) ?_
 intro bh w9 bh_ge bh_lt hbh hb9
 obtain ⟨hS9, hz9, hy9⟩ := zC hr0 hb9
 refine hK _ _ ?_
 clear hK K
 (try simp only [Act.put, zD, zE, zF])
 refine Wl.step (fun K hK => ?_)
 refine step_const rfl 22 5 _ rfl bh 6 6 _ (by kernel_rfl) underlying22 underlying5 hbh ?_
 intro w10 hO h8
 have hS10 := hS9.trans (hO.below (B := w8.heap.size) (by omega))
 have q15 := bs_row [73, 78, 86, 73, 84, 69] rfl h8 (by decide)
 clear hbh
 clear hO
 clear h8
 refine hK _ _ ?_
 clear hK K
 (try simp only [Act.put, zD, zE, zF])
 refine pP [.agg #[.int .i64 5, .slice none 0 0, .slice (some ⟨bh, 0, none⟩) 6 6, .slice none 0 0, .slice none 0 0, .slice none 0 0, .bool false, .bool false, .slice none 0 0, .slice none 0 0, .slice none 0 0, .int .i64 0, .slice none 0 0, .slice none 0 0, .slice none 0 0, .int .u32 7, .slice none 0 0, .slice none 0 0, .slice none 0 0, .slice none 0 0, .int .i64 0]] ?_
 refine cC func24 #[.agg #[.int .i64 5, .slice none 0 0, .slice (some ⟨bh, 0, none⟩) 6 6, .slice none 0 0, .slice none 0 0, .slice none 0 0, .bool false, .bool false, .slice none 0 0, .slice none 0 0, .slice none 0 0, .int .i64 0, .slice none 0 0, .slice none 0 0, .slice none 0 0, .int .u32 7, .slice none 0 0, .slice none 0 0, .slice none 0 0, .slice none 0 0, .int .i64 0]] (headTextK_c w0 hE _ _ (hq8.trans (hS10.mono hq8.size)) (knownHd_R q15)) ?_
 rintro e w11 ⟨v18, v19, rfl, q18, hb11⟩
 refine cR ?_
 have hS11 := hS10.trans (hb11.mono hS10.size)
 refine pQ [_, v18, v19, _, _] ?_
 go_upto_region 4 with fail
 apply wR
 refine yb (.agg (cs1)) hS11 (yA 25 ba 0 cs1 underlying25 (by rw [k1]; kernel_rfl) (fun w h => HC1.out w h)) ?_
 refine cC func25 #[.agg cs1] (uriTextK_c w0 hE cs1 _ (hq8.trans (hS11.mono hq8.size)) (hu1.grow hS11)) ?_
 rintro e w12 ⟨v21, rfl, q21, hb12⟩
 refine cR ?_
 have hS12 := hS11.trans (hb12.mono hS11.size)
 replace q18 := q18.grow hb12
 refine Wl.step (fun K hK => ?_)
 refine sC func17 #[v21, .string ⟨#[115, 105, 112, 58, 98, 111, 98, 64, 98, 46, 111, 114, 103, 58, 53, 48, 55, 48]⟩] (is_c v21 knownB _ _ q21 (by decide)) ?_
 rintro e w13 ⟨he, hb13⟩
 have he : e = .returned (.bool true) := he
 subst he
 refine ⟨_, rfl, ?_⟩
 have hS13 := hS12.trans (hb13.mono hS12.size)
 replace q18 := q18.grow hb13
 refine hK _ _ ?_
 clear hK K
 (try simp only [Act.put, zD, zE, zF])
 refine pP [_, _, .bool true, _] ?_
 refine yb (.agg (cs1)) hS13 (yA 25 ba 0 cs1 underlying25 (by rw [k1]; kernel_rfl) (fun w h => HC1.out w h)) ?_
 refine yb (.agg (cs2)) hS13 (yA 25 bb 0 cs2 underlying25 (by rw [k2]; kernel_rfl) (fun w h => HC2.out w h)) ?_
 refine Wl.step (fun K hK => ?_)
 refine sW func26 #[.agg cs1, .agg cs2] (sameUri_c cs1 cs2 knownUr _ (hu1.grow hS13) (hu2.grow hS13)) ?_
 rintro e w14 ⟨rfl, hb14⟩
 refine ⟨_, rfl, ?_⟩
 have hS14 := hS13.trans (hb14.mono hS13.size)
 replace q18 := q18.grow hb14
 refine hK _ _ ?_
 clear hK K
 (try simp only [Act.put, zD, zE, zF])
 refine pP [.bool true, _, _] ?_
 refine Wl.step (fun K hK => ?_)
 refine sW func17 #[v18, .string ⟨#[67, 83, 101, 113, 58, 32, 55, 32, 73, 78, 86, 73, 84, 69]⟩] (is_c v18 seqB _ _ q18 (by decide)) ?_
 rintro e w15 ⟨he, hb15⟩
 have he : e = .returned (.bool true) := he
 subst he
 refine ⟨_, rfl, ?_⟩
 have hS15 := hS14.trans (hb15.mono hS14.size)
 refine hK _ _ ?_
 clear hK K
 (try simp only [Act.put, zD, zE, zF])
 refine pQ [.bool true, _] ?_
 go_wp2
 go_ret
 exact ⟨rfl, hS8.trans (hS15.mono hS8.size)⟩
end Go.Proofs.YtfcllhdhfenmcaaGreatDoor
