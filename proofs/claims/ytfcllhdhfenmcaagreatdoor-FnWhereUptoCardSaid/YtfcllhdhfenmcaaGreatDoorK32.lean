/- Part 32 of the proof: laws and walks (merged by a program). -/
import Derived.Test.YtfcllhdhfenmcaaGreatDoorK01
import Derived.Test.YtfcllhdhfenmcaaGreatDoorK03
import Derived.Test.YtfcllhdhfenmcaaGreatDoorK12
import Derived.Test.YtfcllhdhfenmcaaGreatDoorK13
import Derived.Test.YtfcllhdhfenmcaaGreatDoorK28
import Derived.Test.YtfcllhdhfenmcaaGreatDoorK29
import Derived.Test.YtfcllhdhfenmcaaGreatDoorK30
set_option linter.all false
set_option maxHeartbeats 8000000
set_option maxRecDepth 100000
namespace Go.Proofs.YtfcllhdhfenmcaaGreatDoor
open Go.RowKit Go.Proofs.Tryz
theorem cell_heap {w w' : World} (h : w.heap = w'.heap) : w.cell? = w'.cell? := by
 funext p
 unfold World.cell?
 rw [h]
theorem Bs.heap {w w' : World} {v : Value} {l : By} (hh : w.heap = w'.heap) (h : Bs w v l) : Bs w' v l := by
 unfold Bs at h ⊢
 rw [← cell_heap hh, ← hh]
 exact h
theorem KVs.heap {w w' : World} {v : Value} {l : List KV} (hh : w.heap = w'.heap) (h : KVs w v l) : KVs w' v l := by
 obtain ⟨A, c, rfl, h1, h2, h3⟩ := h
 refine ⟨A, c, rfl, h1, h2, fun h0 => ?_⟩
 obtain ⟨b, o, rfl, hl, hc⟩ := h3 h0
 refine ⟨b, o, rfl, by rw [← hh]; exact hl, fun i hi => ?_⟩
 obtain ⟨kv, vv, e1, e2, r1, r2⟩ := hc i hi
 exact ⟨kv, vv, by rw [← cell_heap hh]; exact e1, by rw [← cell_heap hh]; exact e2, r1.heap hh, r2.heap hh⟩
theorem ex_bs_heap {w w' : World} {c : Option Value} {l : By} (hh : w.heap = w'.heap) (h : ∃ v, c = some v ∧ Bs w v l) : ∃ v, c = some v ∧ Bs w' v l := by
 obtain ⟨v, h1, h2⟩ := h
 exact ⟨v, h1, h2.heap hh⟩
theorem ex_kvs_heap {w w' : World} {c : Option Value} {l : List KV} (hh : w.heap = w'.heap) (h : ∃ v, c = some v ∧ KVs w v l) : ∃ v, c = some v ∧ KVs w' v l := by
 obtain ⟨v, h1, h2⟩ := h
 exact ⟨v, h1, h2.heap hh⟩
theorem UrR.heap {w w' : World} {cs : Array Value} {u : Ur} (hh : w.heap = w'.heap) (h : UrR w cs u) : UrR w' cs u :=
 ⟨h.size, ex_bs_heap hh h.scheme, ex_bs_heap hh h.raw, h.star, h.slashes, ex_bs_heap hh h.user, ex_bs_heap hh h.pass, ex_bs_heap hh h.host, h.port, ex_kvs_heap hh h.ps, ex_kvs_heap hh h.hs, h.portLo, h.portHi⟩
theorem HdR.heap {w w' : World} {cs : Array Value} {x : Hd} (hh : w.heap = w'.heap) (r : HdR w cs x) : HdR w' cs x :=
 ⟨r.size, r.t, ex_bs_heap hh r.name, ex_bs_heap hh r.text, ex_bs_heap hh r.disp, r.uri.heap hh, ex_kvs_heap hh r.ps, r.num, ex_bs_heap hh r.proto, ex_bs_heap hh r.ver, ex_bs_heap hh r.tr, ex_bs_heap hh r.host, r.port, r.tLo, r.tHi, r.numLo, r.numHi, r.portLo, r.portHi⟩
theorem HdR.ax {p : Nat → Prop} {w w2 : World} {cs : Array Value} {x : Hd} (h : HdR w cs x) (ha : Ax p w w2) (hp : ∀ k, p k → w.heap.size ≤ k) : HdR w2 cs x := by
 have hb : Below w.heap.size w { w2 with os := w.os, tape := w.tape, output := w.output } := ⟨rfl, rfl, rfl, ha.1, fun k hk => ha.2 k (fun q => by have := hp k q; omega) hk⟩
 exact HdR.heap (w := { w2 with os := w.os, tape := w.tape, output := w.output }) (w' := w2) rfl (h.grow hb)
theorem plain_c (p : Nat → Prop) (cs : Array Value) (x : Hd) (w : World) (hp : ∀ k, p k → k < w.heap.size) (h : ∀ w2, Ax p w w2 → HdR w2 cs x) :
 Calls Tryz.prog 27 #[.agg cs] w (PlainOut p w x) := by
 obtain ⟨A1, c1, A2, c2, A3, c3, A4, c4, A5, c5, A8, c8, A9, c9, A10, c10, A12, c12, A13, c13, A14, c14, A16, c16, A17, c17, A18, c18, A19, c19, rfl⟩ := (h w (Ax.refl _ _)).lit
 exact plain_lit p x w A1 c1 A2 c2 A3 c3 A4 c4 A5 c5 A8 c8 A9 c9 A10 c10 A12 c12 A13 c13 A14 c14 A16 c16 A17 c17 A18 c18 A19 c19 hp h
def nHd (t : Int) : List Hd → Nat
 | [] => 0
 | h :: l => if h.t = t then nHd t l + 1 else nHd t l
def noneH : Hd := { (default : Hd) with t := -1 }
def fHd (t : Int) : List Hd → Hd
 | [] => noneH
 | h :: l => if h.t = t then plainH h else fHd t l
theorem nHd_le (t : Int) (l : List Hd) : nHd t l ≤ l.length := by
 induction l with
 | nil => exact Nat.le_refl _
 | cons h l ih =>
   unfold nHd
   simp only [List.length_cons]
   split <;> omega
theorem drop_step (l : List Hd) (k : Nat) (h : k < l.length) : l.drop k = hdAt l k :: l.drop (k + 1) := by
 rw [List.drop_eq_getElem_cons h, hdAt_get l k h]
theorem yf_ix {P : Program} {ops : Array Oper} {S : World → Prop} {o : Oper} {a : Act} (hw : Region.wanted o (yielded ops a.tmps) = true) (T e : TypeId) (hu : P.underlying T = some (.slice e)) (x y : Operand) (ho : o.op = .indexAddr T x y) (g off n c i sz : Nat) (hx : a.eval x = .slice (some ⟨g, off, none⟩) n c) (hy : a.eval y = .int .i64 i) (hi : i < n) (hs : (P.info? e).map (·.size) = some sz) :
 YieldsIf P ops S o (.pointer (some ⟨g, off + i * sz, none⟩)) a :=
 .inl ⟨hw, fun w _ => by
  cases hq : P.info? e with
  | none => simp [hq] at hs
  | some z =>
    have hs' : z.size = sz := by simpa [hq] using hs
    have h0 : (0 : Int) ≤ (i : Int) ∧ (i : Int) < (n : Int) := by omega
    unfold execOp
    simp [ho, hx, hy, Instr.indexAt, run_underlying hu, asIntOf, h0, sizeOf, typeInfo, hq, hs', add_none]
    intro hc
    omega⟩
theorem noneH_R (w : World) : HdR w #[.int .i64 (-1), .slice none 0 0, .slice none 0 0, .slice none 0 0, .slice none 0 0, .slice none 0 0, .bool false, .bool false, .slice none 0 0, .slice none 0 0, .slice none 0 0, .int .i64 0, .slice none 0 0, .slice none 0 0, .slice none 0 0, .int .u32 0, .slice none 0 0, .slice none 0 0, .slice none 0 0, .slice none 0 0, .int .i64 0] noneH :=
 HdR.mk21 (x := noneH) (bs_nil w) (bs_nil w) (bs_nil w) (ur0_R w) (kvs_nil w) (bs_nil w) (bs_nil w) (bs_nil w) (bs_nil w) (by decide) (by decide) (by decide) (by decide) (by decide) (by decide)
structure FsS (p : Nat → Prop) (w : World) (b5 b7 : Nat) (x : Hd) (wr : World) : Prop where
 bel : Below w.heap.size w wr
 l5 : w.heap.size ≤ b5
 l7 : b5 < b7
 h7 : b7 < wr.heap.size
 k5 : ∃ C, Blk wr b5 C 34 ∧ C.size = 21
 k7 : ∃ ds, Blk wr b7 ds 34 ∧ ∀ w2, Ax p wr w2 → HdR w2 ds x
theorem step_store_whole {P : Program} {ops : Array Oper} {o : Oper} {a : Act} {w : World} {K : Act → World → Prop} {Q : Exit → Act → World → Prop} {E : Prop} (hgd : o.guard = none) (ty : TypeId) (x y : Operand) (ho : o.op = .store ty x y)
 (g : Nat) (cells C : Array Value) (hx : a.eval x = .pointer (some ⟨g, 0, none⟩)) (hy : a.eval y = .agg cells) (t : TypeId)
 (hg : Blk w g C t) (hz : C.size = cells.size) (hi : (P.info? ty).map (·.size) = some cells.size) (h1 : cells.all (·.oneCell') = true)
 (h : ∀ W, Blk W g cells t → Oth g w W → K (a.put o.dst undef) W) : if Region.wanted o (yielded ops a.tmps) = true then Oper.wp P o a w K Q else E :=
 step_store_row hgd ty x y ho g cells hx hy t (hz ▸ hg.row) hi h1 (h _ (hg.set _) (oth_setRow _ _ _))
theorem results_tmp_row {P : Program} {fn : Func} {p u : Tmp} {ty : TypeId} (h : fn.results = #[.tmp u, .cell p ty]) (tmps : Array Value) (w : World) (g : Nat) (cs : Array Value) (t : TypeId) (fr : Nat × Nat) (d : TypeDesc) (v : Value)
 (hp : tmps.getD p undef = .pointer (some ⟨g, 0, none⟩)) (hg : w.heap[g]? = some (.cells cs t fr)) (hv : tmps.getD u undef = v)
 (hu : P.underlying ty = some d) (hd : (match d with | .struct _ | .array _ _ => true | _ => false) = true) (hi : (P.info? ty).map (·.size) = some cs.size) :
 (results fn tmps).run P w = .ok (.tuple #[v, .agg cs]) w := by
 have hl := run_loadVar_row w g t ty cs fr d hg hu hd hi
 have hp' : tmps[p]?.getD undef = .pointer (some ⟨g, 0, none⟩) := by simpa using hp
 have hv' : tmps[u]?.getD undef = v := by simpa using hv
 unfold results
 simp [h, hp', hv', Sem.run_bind, asAddr, hl, Result.andThen_ok]
theorem firsts_x (p0 : Nat → Prop) (v : Value) (l : List Hd) (t : Int) (w0 w : World) (hw0 : Below w0.heap.size w0 w) (h : Hds w0 v l) (hp0 : ∀ k, p0 k → w0.heap.size ≤ k ∧ k < w.heap.size) (hl : l.length ≤ 1048576) :
 Calls Tryz.prog 8 #[v, .int .i64 t] w fun e w' => ∃ ds, e = .returned (.tuple #[.int .i64 ((nHd t l : Nat) : Int), .agg ds]) ∧ (∀ w2, Ax p0 w' w2 → HdR w2 ds (fHd t l)) ∧ Below w.heap.size w w' := by
 have hwz := hw0.size
 have HP0 := Lib.hid hp0
 clear hp0
 obtain ⟨A, cp, rfl, h1, h2, h3⟩ := h
 have H3 := Lib.hid h3; clear h3
 have hs0 := Below.refl w.heap.size w
 go_enter func8, ntmps8
 go_upto_region 0 with fail
 refine pR [_] ?_
 refine cN #[.int .i64 0, .slice none 0 0, .slice none 0 0, .slice none 0 0, .slice none 0 0, .slice none 0 0, .bool false, .bool false, .slice none 0 0, .slice none 0 0, .slice none 0 0, .int .i64 0, .slice none 0 0, .slice none 0 0, .slice none 0 0, .int .u32 0, .slice none 0 0, .slice none 0 0, .slice none 0 0, .slice none 0 0, .int .i64 0] 34 ?_
 intro b5 w1 b5_ge b5_lt k5 hb1
 obtain ⟨hS1, hz1, hy1⟩ := zC hs0 hb1
 refine wP ?_
 refine wN ?_
 go_upto_region 1 with fail
 refine pR [.agg #[.int .i64 (-1), .slice none 0 0, .slice none 0 0, .slice none 0 0, .slice none 0 0, .slice none 0 0, .bool false, .bool false, .slice none 0 0, .slice none 0 0, .slice none 0 0, .int .i64 0, .slice none 0 0, .slice none 0 0, .slice none 0 0, .int .u32 0, .slice none 0 0, .slice none 0 0, .slice none 0 0, .slice none 0 0, .int .i64 0]] ?_
 refine cN #[.int .i64 0, .slice none 0 0, .slice none 0 0, .slice none 0 0, .slice none 0 0, .slice none 0 0, .bool false, .bool false, .slice none 0 0, .slice none 0 0, .slice none 0 0, .int .i64 0, .slice none 0 0, .slice none 0 0, .slice none 0 0, .int .u32 0, .slice none 0 0, .slice none 0 0, .slice none 0 0, .slice none 0 0, .int .i64 0] 34 ?_
 intro b7 w2 b7_ge b7_lt k7 hb2
 obtain ⟨hS2, hz2, hy2⟩ := zC hS1 hb2
 replace k5 := k5.grow hb2
 refine wP ?_
 refine pP [_] ?_
 refine cB 34 b7 0 [.int .i64 (-1), .slice none 0 0, .slice none 0 0, .slice none 0 0, .slice none 0 0, .slice none 0 0, .bool false, .bool false, .slice none 0 0, .slice none 0 0, .slice none 0 0, .int .i64 0, .slice none 0 0, .slice none 0 0, .slice none 0 0, .int .u32 0, .slice none 0 0, .slice none 0 0, .slice none 0 0, .slice none 0 0, .int .i64 0] 34 k7 ?_
 intro w3 k7' hO3
 replace k5 := k5.oth hO3 (by omega)
 have hS3 := hS2.trans (hO3.below (by omega))
 have hz3 := hS3.size
 clear k7
 have k7 := k7'
 clear k7'
 have hzz3 := hO3.size
 replace hO3 := Lib.hid hO3
 refine wN ?_
 obtain ⟨p, hp⟩ : ∃ p : Nat → Prop, p = fun k => p0 k ∨ k = b5 ∨ k = b7 := ⟨_, rfl⟩
 have hpp : ∀ k, p0 k → p k := fun k hk => by rw [hp]; exact .inl hk
 have hp1 : Hid (∀ k, p k → w0.heap.size ≤ k ∧ k ≤ b7) := fun k hk => by
  rw [hp] at hk
  rcases hk with hk | rfl | rfl
  ·have := HP0.out k hk; omega
  ·omega
  ·omega
 have hp7 : p b7 := by rw [hp]; exact .inr (.inr rfl)
 have hp5 : p b5 := by rw [hp]; exact .inr (.inl rfl)
 have hF : FsS p w b5 b7 (fHd t (l.drop l.length)) w3 := ⟨hS3, by omega, by omega, by omega, ⟨_, k5, rfl⟩, ⟨_, k7, fun w2 _ => by rw [List.drop_length]; exact noneH_R w2⟩⟩
 have hc0 : nHd t (l.drop l.length) = 0 := by rw [List.drop_length]; rfl
 clear k5 k7 hp hS1 hS2 hS3 hs0 HP0
 clear hO3 hb1 hb2
 have s0 : IntKind.i64.wrap ((l.length : Int) - 1) = (l.length : Int) - 1 := IntWalk.i64_in _ (by omega)
 go_wp2
 go_loopw [6, 8] (fun n i wr => ∃ k c : Nat, k ≤ l.length ∧ i = .int .i64 ((k : Int) - 1) ∧ n = .int .i64 ((c : Nat) : Int) ∧ c ≤ l.length ∧ Hid (c = nHd t (l.drop k)) ∧ FsS p w b5 b7 (fHd t (l.drop k)) wr) (fun _ i _ => (intOf i + 1).toNat)
 case atStart => exact ⟨l.length, 0, Nat.le_refl _, rfl, rfl, Nat.zero_le _, hc0.symm, hF⟩
 case round =>
  obtain ⟨k, c, hk, rfl, rfl, hcl, hc, hF⟩ := hrel
  clear s0
  obtain ⟨hB, q5, q7, qz, ⟨C5, k5, z5⟩, ⟨ds, k7, hd⟩⟩ := hF
  cases k with
  | zero =>
    have hd0 : ds.size = 21 := (hd _ (Ax.refl _ _)).size
    have hone : ds.all (·.oneCell') = true := (hd _ (Ax.refl _ _)).one
    have HD := Lib.hid hd; clear hd
    have hS : Below w.heap.size w wr ∧ Blk wr b7 ds 34 := ⟨hB, k7⟩
    simp only [Int.natCast_zero, Int.zero_sub] at *
    go_upto_region 3 with fail
    refine pS [_, .bool false] ?_
    go_upto_region 8 with fail
    refine wp_region_noPanic ?_
    have hSd8 : (fun w' => Below w.heap.size w w' ∧ Blk w' b7 ds 34) (wr).drew := ⟨hS.1.drew, hS.2.grow (below_drew1 _)⟩
    refine wp_region_held_drew (S := fun w' => Below w.heap.size w w' ∧ Blk w' b7 ds 34) (by kernel_rfl) hSd8 (fun _ => ?_)
    refine tk 0 (.int .i64 (c : Nat)) rfl yR hSd8 ?_
    refine tk 1 (.agg (ds)) rfl (yA 34 b7 0 ds underlying34 (infoHd.trans (congrArg some hd0.symm)) (fun w' h => h.2.cells)) hSd8 ?_
    refine tk 2 (.int .i64 (c : Nat)) rfl yR hSd8 ?_
    refine rd 3 rfl (fun K hK => ?_)
    refine step_store_whole rfl 34 _ _ rfl b5 ds C5 (by kernel_rfl) (by kernel_rfl) 34 (k5.grow (below_drew1 _)) (z5.trans hd0.symm) (infoHd.trans (congrArg some hd0.symm)) hone ?_
    intro w11 k5' hO
    have hS11 : (fun w' => Below w.heap.size w w' ∧ Blk w' b7 ds 34) w11 := ⟨hS.1.drew.trans (hO.below (by omega)), (hS.2.grow (below_drew1 _)).oth hO (by omega)⟩
    refine sh hK hS11 ?_
    clear hK K
    refine wpAnyH_done (by kernel_rfl) ?_ _
    refine NoPanic.normal ?_
    go_wp2
    refine bodyPost_ret (results_tmp_row rfl _ _ _ _ _ _ _ _ rfl k5' rfl underlying34 rfl (infoHd.trans (congrArg some hd0.symm))) rfl ⟨ds, ?_, ?_, hS11.1⟩
    ·have h := hc.out; rw [List.drop_zero] at h; rw [← h]; rfl
    ·intro z hz; have := HD.out z (Ax.of (below_drew1 _) (Ax.oth hO hp5 (hz.mono hpp))); rwa [List.drop_zero] at this
  | succ j =>
    have ej : (((j + 1 : Nat) : Int) - 1) = ((j : Nat) : Int) := by omega
    rw [ej]
    clear ej
    have hj : j < l.length := by omega
    have sj : IntKind.i64.wrap (((j : Nat) : Int) - 1) = ((j : Nat) : Int) - 1 := IntWalk.i64_in _ (by omega)
    obtain ⟨b, o, rfl, hl0, hcc⟩ := H3.out (by omega)
    obtain ⟨hcs, q0, g0⟩ := hcc j hj
    clear hcc
    have hst := drop_step l j hj
    obtain ⟨x, hx⟩ : ∃ x, x = hdAt l j := ⟨_, rfl⟩
    rw [← hx] at g0 hst
    have HX := Lib.hid hx; clear hx
    have hBw : Below w0.heap.size w0 wr := hw0.trans (hB.mono hwz)
    have hBz := hBw.size
    have HQ := Lib.hid (q0.grow hl0 hBw)
    have HG := Lib.hid g0
    have et : wr.cell? ⟨b, o + j * 21, none⟩ = some (.int .i64 x.t) := by simpa using HQ.out 0 _ g0.t
    clear q0 g0
    have hsr := Below.refl wr.heap.size wr
    by_cases ht : x.t = t
    ·have e1 : Hid (fHd t (l.drop j) = plainH x) := by unfold Hid; rw [hst]; unfold fHd; rw [if_pos ht]
     have e2 : Hid (nHd t (l.drop j) = nHd t (l.drop (j + 1)) + 1) := by unfold Hid; rw [hst]; conv => lhs; unfold nHd; rw [if_pos ht]
     have HP : ∀ w2, Ax p wr w2 → HdR w2 hcs x := fun w2 h2 => HG.out.ax (Ax.of hBw h2) (fun k hk => (hp1.out k hk).1)
     have hpl := Lib.hid (plain_c p hcs x wr (fun k hk => by have := (hp1.out k hk).2; omega) HP)
     have hdz : ds.size = 21 := (hd _ (Ax.refl _ _)).size
     clear HP hst hd
     have hg2 : hcs.size = 21 := HG.out.size
     go_upto_region 3 with fail
     refine pR [_] ?_
     refine ihT .i64 (j : Nat) 0 ?_
     refine wN ?_
     go_upto_region 5 with fail
     refine pR [_, _] ?_
     refine yb (.pointer (some ⟨b, o + j * 21, none⟩)) hsr (yf_ix (by kernel_rfl) 26 34 underlying26 _ _ rfl b o l.length cp j 21 (by kernel_rfl) (by kernel_rfl) hj infoHd) ?_
     refine pP [.pointer (some ⟨b, o + j * 21, none⟩)] ?_
     refine yb (.int .i64 x.t) hsr (yL underlying3 (fun w' h => (h.cell (p := ⟨b, o + j * 21, none⟩) (by show b < _; omega)).trans et)) ?_
     refine pP [_] ?_
     refine ieT .i64 x.t t ?_ (ht)
     refine wN ?_
     go_upto_region 6 with fail
     refine pR [_] ?_
     refine iA c 1 ?_
     refine pQ [_] ?_
     go_upto_region 7 with fail
     refine pR [_, _] ?_
     refine yb (.pointer (some ⟨b, o + j * 21, none⟩)) hsr (yf_ix (by kernel_rfl) 26 34 underlying26 _ _ rfl b o l.length cp j 21 (by kernel_rfl) (by kernel_rfl) hj infoHd) ?_
     refine yb (.agg (hcs)) hsr (yA 34 b (o + j * 21) hcs underlying34 (infoHd.trans (congrArg some hg2.symm)) (fun w' h => HQ.out.grow (by omega) h)) ?_
     refine cD func27 hpl.out ?_
     rintro e w11 ⟨ds2, rfl, hd2, hb11⟩
     refine cR ?_
     obtain ⟨hS11, hz11, hy11⟩ := zC hsr hb11
     refine Wl.step (fun K hK => ?_)
     refine step_store_whole rfl 34 _ _ rfl b7 ds2 ds (by kernel_rfl) (by kernel_rfl) 34 (k7.grow hb11) (hdz.trans (hd2 _ (Ax.refl _ _)).size.symm) (infoHd.trans (congrArg some (hd2 _ (Ax.refl _ _)).size.symm)) (hd2 _ (Ax.refl _ _)).one ?_
     intro w12 k7' hO
     have hS12 := hO
     refine hK _ _ ?_
     clear hK K
     (try simp only [Act.put, zD, zE, zF])
     refine wN ?_
     go_wp2_with fail
     go_roundw
     case rel =>
      refine ⟨j, c + 1, by omega, rfl, rfl, ?_, ?_, ?_⟩
      ·have := nHd_le t (l.drop j); have := hc.out; have := e2.out; rw [List.length_drop] at *; omega
      ·show c + 1 = _; rw [e2.out, hc.out]
      ·rw [e1.out]
       have hb : Below w.heap.size w w12 := (hB.trans (hb11.mono hB.size)).trans (hO.below (by omega))
       exact ⟨hb, q5, q7, by have := hb11.size; have := hO.size; omega, ⟨C5, (k5.grow hb11).oth hO (by omega), z5⟩, ⟨ds2, k7', fun w2 h2 => hd2 w2 (Ax.oth hO hp7 h2)⟩⟩
     case measure => first | (simp [intOf]; done) | (simp [intOf]; omega)
    ·have e1 : Hid (fHd t (l.drop j) = fHd t (l.drop (j + 1))) := by unfold Hid; rw [hst]; conv => lhs; unfold fHd; rw [if_neg ht]
     have e2 : Hid (nHd t (l.drop j) = nHd t (l.drop (j + 1))) := by unfold Hid; rw [hst]; conv => lhs; unfold nHd; rw [if_neg ht]
     clear hst
     go_upto_region 3 with fail
     refine pR [_] ?_
     refine ihT .i64 (j : Nat) 0 ?_
     refine wN ?_
     go_upto_region 5 with fail
     refine pR [_, _] ?_
     refine yb (.pointer (some ⟨b, o + j * 21, none⟩)) hsr (yf_ix (by kernel_rfl) 26 34 underlying26 _ _ rfl b o l.length cp j 21 (by kernel_rfl) (by kernel_rfl) hj infoHd) ?_
     refine pP [.pointer (some ⟨b, o + j * 21, none⟩)] ?_
     refine yb (.int .i64 x.t) hsr (yL underlying3 (fun w' h => (h.cell (p := ⟨b, o + j * 21, none⟩) (by show b < _; omega)).trans et)) ?_
     refine pP [_] ?_
     refine ieF .i64 x.t t ?_ (ht)
     refine wN ?_
     go_wp2_with fail
     go_roundw
     case rel => exact ⟨j, c, by omega, rfl, rfl, hcl, by show c = _; rw [e2.out, hc.out], by rw [e1.out]; exact ⟨hB, q5, q7, qz, ⟨C5, k5, z5⟩, ⟨ds, k7, hd⟩⟩⟩
     case measure => first | (simp [intOf]; done) | (simp [intOf]; omega)
theorem firsts_c (v : Value) (l : List Hd) (t : Int) (w : World) (h : Hds w v l) (hl : l.length ≤ 1048576) :
 Calls Tryz.prog 8 #[v, .int .i64 t] w fun e w' => ∃ ds, e = .returned (.tuple #[.int .i64 ((nHd t l : Nat) : Int), .agg ds]) ∧ HdR w' ds (fHd t l) ∧ Below w.heap.size w w' :=
 (firsts_x (fun _ => False) v l t w w (Below.refl _ _) h (fun _ h => h.elim) hl).mono fun _ _ q => by
  obtain ⟨ds, h1, h2, h3⟩ := q
  exact ⟨ds, h1, h2 _ (Ax.refl _ _), h3⟩
def isSingleB (l : List Hd) : Bool := decide (∀ j : Nat, j < 15 → 1 ≤ j → nHd (j : Int) l ≤ 1)
theorem isSingle_no {l : List Hd} (j : Nat) (h1 : 1 ≤ j) (h2 : j < 15) (h : 1 < nHd (j : Int) l) : isSingleB l = false := by
 unfold isSingleB
 rw [decide_eq_false_iff_not]
 intro hh
 have := hh j h2 h1
 omega
theorem isSingle_yes {l : List Hd} (h : ∀ j : Nat, 1 ≤ j → j < 15 → nHd (j : Int) l ≤ 1) : isSingleB l = true := by
 unfold isSingleB
 rw [decide_eq_true_eq]
 exact fun j h2 h1 => h j h1 h2
theorem isSingle_c (v : Value) (l : List Hd) (w : World) (h : Hds w v l) (hl : l.length ≤ 1048576) :
 Calls Tryz.prog 6 #[v] w fun e w' => e = .returned (.bool (isSingleB l)) ∧ Below w.heap.size w w' := by
 have HH := Lib.hid h
 obtain ⟨A, cp, rfl⟩ := h.shape
 clear h
 go_enter func6, ntmps6
 go_wp2
 go_loopw [3] (fun i wr => ∃ k : Nat, 1 ≤ k ∧ k ≤ 15 ∧ i = .int .i64 ((k : Nat) : Int) ∧ Below w.heap.size w wr ∧ Hid (∀ j : Nat, 1 ≤ j → j < k → nHd (j : Int) l ≤ 1)) (fun i _ => 15 - (intOf i).toNat)
 case atStart => exact ⟨1, by omega, by omega, rfl, Below.refl _ _, fun j h1 h2 => by omega⟩
 case round =>
  obtain ⟨k, hk1, hk2, rfl, hB, hall⟩ := hrel
  by_cases hlt : k < 15
  ·have hf := Lib.hid (firsts_c _ l ((k : Nat) : Int) wr (HH.out.grow hB) hl)
   obtain ⟨c, hc⟩ : ∃ c, c = nHd ((k : Nat) : Int) l := ⟨_, rfl⟩
   rw [← hc] at hf
   have hcl : c ≤ 1048576 := by rw [hc]; exact Nat.le_trans (nHd_le _ _) hl
   have HC := Lib.hid hc; clear hc
   have hsr := Below.refl wr.heap.size wr
   by_cases hc1 : 1 < c
   all_goals
    go_upto_region 2 with fail
    refine pR [_] ?_
    refine ilT .i64 (k : Nat) 15 ?_
    refine wN ?_
    go_upto_region 4 with fail
    refine pR [_, _] ?_
    refine cD func8 hf.out ?_
    rintro e w11 ⟨ds, rfl, hd, hb11⟩
    refine cR ?_
    obtain ⟨hS11, hz11, hy11⟩ := zC hsr hb11
    refine pP [_, .int .i64 (c : Nat), .agg ds] ?_
    refine cN #[.int .i64 0, .slice none 0 0, .slice none 0 0, .slice none 0 0, .slice none 0 0, .slice none 0 0, .bool false, .bool false, .slice none 0 0, .slice none 0 0, .slice none 0 0, .int .i64 0, .slice none 0 0, .slice none 0 0, .slice none 0 0, .int .u32 0, .slice none 0 0, .slice none 0 0, .slice none 0 0, .slice none 0 0, .int .i64 0] 34 ?_
    intro b5 w12 b5_ge b5_lt k5 hb12
    obtain ⟨hS12, hz12, hy12⟩ := zC hS11 hb12
    refine wP ?_
    refine pP [_] ?_
    refine Wl.step (fun K hK => ?_)
    refine step_store_whole rfl 34 _ _ rfl b5 ds _ (by kernel_rfl) (by kernel_rfl) 34 k5 hd.size.symm (infoHd.trans (congrArg some hd.size.symm)) hd.one ?_
    intro w13 k5' hO
    have hS13 := hS12.trans (hO.below (by omega))
    refine hK _ _ ?_
    clear hK K
    (try simp only [Act.put, zD, zE, zF])
    refine wN ?_
    go_wp2_with fail
   ·go_ret
    exact ⟨ret_bool (isSingle_no k hk1 hlt (by rw [← HC.out]; exact hc1)).symm, hB.trans (hS13.mono hB.size)⟩
   ·go_roundw
    case rel => exact ⟨k + 1, by omega, by omega, by go_num, hB.trans (hS13.mono hB.size), fun j h1 h2 => by
     by_cases e : j = k
     ·rw [e, ← HC.out]; omega
     ·exact hall.out j h1 (by omega)⟩
    case measure => first | (simp [intOf]; done) | (simp [intOf]; omega)
  ·obtain rfl : k = 15 := by omega
   go_wp2
   go_ret
   exact ⟨ret_bool (isSingle_yes hall.out).symm, hB⟩
def upB (c : UInt8) : UInt8 := if 97 ≤ c.toNat ∧ c.toNat ≤ 122 then UInt8.ofNat (c.toNat - 32) else c
def upTo (l : By) (k : Nat) : By := (l.take k).map upB ++ l.drop k
theorem upTo_len (l : By) (k : Nat) : (upTo l k).length = l.length := by simp [upTo]; omega
theorem upTo_all (l : By) : upTo l l.length = l.map upB := by simp [upTo]
theorem upTo_get (l : By) (k : Nat) (h : k < l.length) : (upTo l k)[k]? = some l[k] := by
 rw [upTo, List.getElem?_append_right (by simp; omega)]
 simp [List.getElem?_eq_getElem h, Nat.min_eq_left (Nat.le_of_lt h)]
theorem upTo_succ (l : By) (k : Nat) (h : k < l.length) : upTo l (k + 1) = (upTo l k).set k (upB l[k]) := by
 apply List.ext_getElem?
 intro i
 simp only [upTo]
 rcases Nat.lt_trichotomy i k with hi | rfl | hi
 ·rw [List.getElem?_set_ne (by omega), List.getElem?_append_left (by simp; omega), List.getElem?_append_left (by simp; omega)]
  simp [List.getElem?_take, hi, show i < k + 1 by omega]
 ·rw [List.getElem?_set_self (by simp; omega), List.getElem?_append_left (by simp; omega)]
  simp [h]
 ·rw [List.getElem?_set_ne (by omega), List.getElem?_append_right (by simp; omega), List.getElem?_append_right (by simp; omega)]
  simp [Nat.min_eq_left (Nat.le_of_lt h), Nat.min_eq_left (show k + 1 ≤ l.length from h)]
  congr 1
  omega
theorem upTo_same (l : By) (k : Nat) (h : k < l.length) (hu : upB l[k] = l[k]) : upTo l (k + 1) = upTo l k := by
 rw [upTo_succ l k h, hu]
 apply List.ext_getElem?
 intro i
 by_cases hi : k = i
 ·subst hi
  rw [List.getElem?_set_self (by rw [upTo_len]; exact h), upTo_get l k h]
 ·rw [List.getElem?_set_ne hi]
theorem bvals_set (l : By) (k : Nat) (c : UInt8) : bvals (l.set k c) = (bvals l).set k (.int .u8 c.toNat) := by simp [bvals, List.map_set]
theorem Ow.blk {base : Nat} {w : World} {v : Value} {l : By} (h : Ow base w v l) (n : Nat) (hn : n = l.length) (h0 : 0 < n) : ∃ g c, v = .slice (some ⟨g, 0, none⟩) n c := by
 subst hn
 obtain ⟨_, ⟨_, h1⟩ | ⟨g, cap, cur, rfl, _⟩⟩ := h
 ·omega
 ·exact ⟨g, cap, rfl⟩
theorem loud_c (v : Value) (l : By) (w : World) (h : Bs w v l) (hl : l.length ≤ 10000000000000) :
 Calls Tryz.prog 33 #[v] w fun e w' => ∃ r, e = .returned r ∧ Ow w.heap.size w' r (l.map upB) ∧ Below w.heap.size w w' := by
 have HBS := Lib.hid h
 obtain ⟨A, c, rfl⟩ := h.shape
 clear h
 have hL : Hid (BsL (w.alloc (.cells #[.slice A l.length c] 22)) (.slice (some ⟨w.heap.size, 0, none⟩) 1 1) [l]) := by
  refine bsl_lit w #[.slice A l.length c] [l] _ (0, 0) (by simp) fun i hi => ?_
  obtain rfl : i = 0 := by simpa using hi
  exact ⟨_, rfl, HBS.out⟩
 obtain ⟨n, hn⟩ : ∃ n, n = l.length := ⟨_, rfl⟩
 have HN := Lib.hid hn
 rw [← hn] at hL hl
 rw [← hn]
 clear hn
 go_enter func33, ntmps33
 go_wp2_with fail
 refine (joined_c _ [l] _ hL.out (by have := HN.out; simp; omega)).mono ?_
 rintro e w1 ⟨r, rfl, hr, hb1⟩
 have hBw : Below w.heap.size w w1 := (below_alloc w _).trans (hb1.mono (by simp))
 have hr' : Ow w.heap.size w1 r (upTo l 0) := by simpa [upTo] using hr.mono (b' := w.heap.size) (by simp)
 clear hr hb1
 by_cases h0 : n = 0
 ·have HL0 : Hid (l = []) := List.eq_nil_of_length_eq_zero (by rw [← HN.out, h0])
  obtain ⟨A1, c1, rfl⟩ := hr'.atn n (by rw [upTo_len, HN.out])
  subst h0
  go_wp2
  go_loopw [4] (fun i wr => i = .int .i64 0 ∧ wr = w1) (fun _ _ => 0)
  case atStart => exact ⟨rfl, rfl⟩
  case round =>
   obtain ⟨rfl, rfl⟩ := hrel
   go_wp2
   go_ret
   refine ⟨_, rfl, ?_, hBw⟩
   rw [HL0.out] at hr' ⊢
   exact hr'
 ·obtain ⟨g, c1, rfl⟩ := hr'.blk n (by rw [upTo_len, HN.out]) (by omega)
  go_wp2
  go_loopw [4] (fun i wr => ∃ k : Nat, k ≤ n ∧ i = .int .i64 k ∧ Ow w.heap.size wr (.slice (some ⟨g, 0, none⟩) n c1) (upTo l k) ∧ Below w.heap.size w wr) (fun i _ => n - (intOf i).toNat)
  case atStart => exact ⟨0, Nat.zero_le _, rfl, hr', hBw⟩
  case round =>
   obtain ⟨k, hk, rfl, hO, hB⟩ := hrel
   by_cases hlt : k < n
   ·have hkl : k < l.length := by have := HN.out; omega
    have hown : wr.ownsRow w.heap.size 5 1 (.slice (some ⟨g, 0, none⟩) n c1) n (bvals (upTo l k)) := by
     have := hO
     unfold Ow at this
     rw [upTo_len, ← HN.out] at this
     exact this
    obtain ⟨x, hx⟩ : ∃ x, x = l[k] := ⟨_, rfl⟩
    have hcell : wr.cell? ⟨g, k, none⟩ = some (.int .u8 x.toNat) := by
     rw [hown.cellAt k (by omega)]
     simp [bvals, upTo_get l k hkl, hx]
    have hfr : wr.frozen? ⟨g, k, none⟩ = false := hown.frozenAt k
    have hst := hown.stored k (.int .u8 ((x.toNat : Int) - 32))
    have hgl := hO.base_le g rfl
    have hup := upTo_succ l k hkl
    have hsm := upTo_same l k hkl
    rw [← hx] at hup hsm
    have hx256 := x.toNat_lt
    obtain ⟨c, hc⟩ : ∃ c, c = x.toNat := ⟨_, rfl⟩
    rw [← hc] at hcell hst hx256
    have HCX := Lib.hid hc
    have HST := Lib.hid hst
    have HUP := Lib.hid hup
    have HSM := Lib.hid hsm
    have HOW := Lib.hid hown
    clear hc hst hup hown hx hsm
    by_cases h97 : 97 ≤ c
    ·by_cases h122 : c ≤ 122
     ·go_wp2
      go_roundw
      case rel =>
       refine ⟨k + 1, by omega, by go_num, ?_, hB.grown HST.out.2 hB.size (fun q hq => by injection hq with hq; omega)⟩
       have hq := HST.out.1
       have hu : ((upB x).toNat : Int) = (c : Int) - 32 := by
        have := HCX.out
        rw [upB, if_pos (by omega)]
        simp
        omega
       unfold Ow
       rw [HUP.out, bvals_set, hu, List.length_set, upTo_len, ← HN.out]
       exact hq
      case measure => simp [intOf]; omega
     ·go_wp2
      go_roundw
      case rel =>
       refine ⟨k + 1, by omega, by go_num, ?_, hB⟩
       rw [HSM.out (if_neg (by rw [← HCX.out]; omega))]
       exact hO
      case measure => simp [intOf]; omega
    ·go_wp2
     go_roundw
     case rel =>
      refine ⟨k + 1, by omega, by go_num, ?_, hB⟩
      rw [HSM.out (if_neg (by rw [← HCX.out]; omega))]
      exact hO
     case measure => simp [intOf]; omega
   ·obtain rfl : k = n := by omega
    go_wp2
    go_ret
    refine ⟨_, rfl, ?_, hB⟩
    have := HN.out
    rw [this, upTo_all] at hO
    rw [this]
    exact hO
def valueOfL (key : By) : List KV → Option By
 | [] => none
 | x :: t => if equalB x.k key = true then some x.v else valueOfL key t
theorem valueOf_hit (key : By) (l : List KV) (k : Nat) (hk : k < l.length) (h : equalB (kvAt l k).k key = true) : valueOfL key (l.drop k) = some (kvAt l k).v := by
 rw [List.drop_eq_getElem_cons hk, valueOfL, ← kvAt_get l k hk, if_pos h]
theorem valueOf_miss (key : By) (l : List KV) (k : Nat) (hk : k < l.length) (h : equalB (kvAt l k).k key = false) : valueOfL key (l.drop k) = valueOfL key (l.drop (k + 1)) := by
 rw [List.drop_eq_getElem_cons hk, valueOfL, ← kvAt_get l k hk, if_neg (by rw [h]; decide)]
theorem valueOf_c (v : Value) (l : List KV) (s : ByteArray) (w : World) (h : KVs w v l) (hs : s.size ≤ 4611686018427387904) :
 Calls Tryz.prog 9 #[v, .string s] w fun e w' => ∃ r, e = .returned (.tuple #[r, .bool (valueOfL s.data.toList l).isSome]) ∧ Bs w' r ((valueOfL s.data.toList l).getD []) ∧ Below w.heap.size w w' := by
 obtain ⟨A, cp, rfl, h1, h2, h3⟩ := h
 have H3 := Lib.hid h3; clear h3
 go_enter func9, ntmps9
 go_wp2
 go_loopw [6] (fun v wr => ∃ k : Nat, k ≤ l.length ∧ v = .int .i64 k ∧ Below w.heap.size w wr ∧ Hid (valueOfL s.data.toList (l.drop k) = valueOfL s.data.toList l)) (fun v _ => l.length - (intOf v).toNat)
 case atStart => exact ⟨0, Nat.zero_le _, rfl, Below.refl _ _, rfl⟩
 case round =>
  obtain ⟨k, hk, rfl, hB, hrem⟩ := hrel
  by_cases hlt : k < l.length
  ·obtain ⟨b, o, rfl, hl0, hc⟩ := H3.out (by omega)
   obtain ⟨kv, vv, e1, e2, r1, r2⟩ := hc k hlt
   clear hc
   have hlt' : (k : Int) < (l.length : Int) := by omega
   replace e1 := (hB.cell (p := ⟨b, o + k * 2, none⟩) hl0).trans e1
   replace e2 := (hB.cell (p := ⟨b, o + k * 2 + 1, none⟩) hl0).trans e2
   replace r1 := r1.grow hB
   replace r2 := r2.grow hB
   have hsz := hB.size
   cases hE : equalB (kvAt l k).k s.data.toList
   ·have hm := Lib.hid (valueOf_miss s.data.toList l k hlt hE)
    have HE := Lib.hid hE; clear hE
    go_wp2_with (go_at_call 17; refine (is_c _ _ _ _ r1 hs).mono ?_; rintro e w1 ⟨rfl, hb1⟩; rw [HE.out])
    go_roundw
    case rel => exact ⟨k + 1, by omega, by go_num, below_then hB hB.size hb1, hm.out.symm.trans hrem.out⟩
    case measure => simp [intOf]; omega
   ·have hm := Lib.hid (valueOf_hit s.data.toList l k hlt hE)
    have HE := Lib.hid hE; clear hE
    go_wp2_with (go_at_call 17; refine (is_c _ _ _ _ r1 hs).mono ?_; rintro e w1 ⟨rfl, hb1⟩; rw [HE.out]; replace e2 := (hb1.cell (p := ⟨b, o + k * 2 + 1, none⟩) (by show b < _; omega)).trans e2; obtain ⟨A2, c2, rfl⟩ := r2.shape)
    go_ret2
    rw [← hrem.out, hm.out]
    exact ⟨_, rfl, r2.grow hb1, below_then hB hB.size hb1⟩
  ·obtain rfl : k = l.length := by omega
   go_wp2
   go_ret2
   rw [← hrem.out, List.drop_length]
   exact ⟨_, rfl, bs_nil _, hB⟩
theorem iPort_c (v : Value) (l : By) (w : World) (h : Bs w v l) (hl : l.length ≤ 100000000) :
 Calls Tryz.prog 30 #[v] w fun e w' => e = .returned (.int .i64 (dport (lowS (mk l)))) ∧ Below w.heap.size w w' := by
 have HB := Lib.hid h
 obtain ⟨A, c, rfl⟩ := h.shape
 clear h
 have hz : (mk l).size ≤ 100000000 := by
  show (⟨l.toArray⟩ : ByteArray).data.size ≤ _
  simpa using hl
 have hs0 := Below.refl w.heap.size w
 go_enter func30, ntmps30
 go_upto_region 0 with fail
 refine pS [_] ?_
 go_upto_region 1 with fail
 refine pR [_] ?_
 refine kE 22 9 (.slice A l.length c) (.string (mk l)) (conv_b (HB.out.grow hs0)) ?_
 refine cC func58 #[.string (mk l)] (defaultPort_c (mk l) _ hz) ?_
 rintro e w1 ⟨rfl, hb1⟩
 refine cR ?_
 obtain ⟨hS1, hz1, hy1⟩ := zC hs0 hb1
 refine pQ [_] ?_
 go_wp2
 go_ret
 exact ⟨rfl, hS1⟩
def portL (p : Int) (by_ : By) : Int := if p = 0 then dport (lowS (mk by_)) else p
def reachedL (h : By) (p : Int) (by_ : By) : By := h ++ [58] ++ dec (portL p by_)
theorem portL_bounds {p : Int} {b : By} (hlo : -9223372036854775808 ≤ p) (hhi : p ≤ 9223372036854775807) : -9223372036854775808 ≤ portL p b ∧ portL p b ≤ 9223372036854775807 := by
 unfold portL
 split
 ·exact dport_bounds _
 ·exact ⟨hlo, hhi⟩
theorem reached_c (v u : Value) (l b : By) (p : Int) (w : World) (h : Bs w v l) (hu : Bs w u b) (hl : l.length ≤ 100000000) (hb : b.length ≤ 100000000) (hlo : -9223372036854775808 ≤ p) (hhi : p ≤ 9223372036854775807) :
 Calls Tryz.prog 13 #[v, .int .i64 p, u] w fun e w' => ∃ r, e = .returned r ∧ Bs w' r (reachedL l p b) ∧ Below w.heap.size w w' := by
 have HB := Lib.hid h
 have HU := Lib.hid hu
 obtain ⟨A, c, rfl⟩ := h.shape
 obtain ⟨A1, c1, rfl⟩ := hu.shape
 clear h hu
 have hpb := portL_bounds (b := b) hlo hhi
 obtain ⟨q, hq⟩ : ∃ q, q = portL p b := ⟨_, rfl⟩
 rw [← hq] at hpb
 have hdl := dec_len q hpb.2
 have HR : Hid (reachedL l p b = l ++ [58] ++ dec q) := by rw [hq]; rfl
 have hs0 := Below.refl w.heap.size w
 go_enter func13, ntmps13
 by_cases hp : p = 0
 ·have hqd : q = dport (lowS (mk b)) := by rw [hq]; unfold portL; rw [if_pos hp]
  have HP := Lib.hid (iPort_c _ b w HU.out hb)
  rw [← hqd] at HP
  subst hp
  clear hq hqd
  go_wp2_with (go_at_call 30; refine HP.out.mono ?_; rintro e w0 ⟨rfl, hb0⟩)
  refine (decimal_c q _ hpb.1 hpb.2).mono ?_
  rintro e w1 ⟨r, rfl, hr, hb1⟩
  obtain ⟨A3, c3, rfl⟩ := hr.one
  have hs1 := hb1.size
  simp at hs1
  go_wp2_with fail
  refine (joined_c _ [l, [58], dec q] _ (bsl3 _ _ _ _ _ _ _ _ _ ((((HB.out.grow hb0).alloc _).grow hb1)) ((bs_lit w0 [58] _ _ 1 (by simp) (by simp) _ rfl).grow hb1) hr.bs) (by simp; omega)).mono ?_
  rintro e w2 ⟨r2, rfl, hr2, hb2⟩
  obtain ⟨A2, c2, rfl⟩ := hr2.one
  go_wp2_with fail
  go_ret
  refine ⟨_, rfl, ?_, ?_⟩
  ·rw [HR.out]
   simpa using hr2.bs
  ·have hb01 := hb0.size
   exact hb0.trans ((below_then ((below_alloc w0 _).trans (hb1.mono (by simp))) (by omega) ((below_alloc w1 _).trans (hb2.mono (by simp)))).mono hb01)
 ·have hqd : q = p := by rw [hq]; unfold portL; rw [if_neg hp]
  have b0 : (p == 0) = false := beq_eq_false_iff_ne.2 hp
  subst hqd
  clear hq
  have HP := Lib.hid hp; clear hp
  go_wp2_with fail
  refine (decimal_c q _ hlo hhi).mono ?_
  rintro e w1 ⟨r, rfl, hr, hb1⟩
  obtain ⟨A3, c3, rfl⟩ := hr.one
  have hs1 := hb1.size
  simp at hs1
  go_wp2_with fail
  refine (joined_c _ [l, [58], dec q] _ (bsl3 _ _ _ _ _ _ _ _ _ (((HB.out.alloc _).grow hb1)) ((bs_lit w [58] _ _ 1 (by simp) (by simp) _ rfl).grow hb1) hr.bs) (by simp; omega)).mono ?_
  rintro e w2 ⟨r2, rfl, hr2, hb2⟩
  obtain ⟨A2, c2, rfl⟩ := hr2.one
  go_wp2_with fail
  go_ret
  refine ⟨_, rfl, ?_, ?_⟩
  ·rw [HR.out]
   simpa using hr2.bs
  ·exact below_then ((below_alloc w _).trans (hb1.mono (by simp))) (by omega) ((below_alloc w1 _).trans (hb2.mono (by simp)))
theorem pairs_nil (A : Option Addr) (c : Nat) (w : World) : Calls Tryz.prog 68 #[.slice A 0 c] w fun e w' => e = .returned (.slice none 0 0) ∧ Below w.heap.size w w' := by
 go_enter func68, ntmps68
 go_wp2
 go_loopw [3, 8] (fun v3 i wr => v3 = .slice none 0 0 ∧ i = .int .i64 0 ∧ Below w.heap.size w wr) (fun _ _ _ => 0)
 case atStart => exact ⟨rfl, rfl, Below.refl _ _⟩
 case round =>
  obtain ⟨rfl, rfl, hB⟩ := hrel
  go_wp2
  go_ret
  exact ⟨rfl, hB⟩
theorem uriRaw_c (b o : Nat) (s : ByteArray) (w : World) (hc : w.cell? ⟨b, o + 1, none⟩ = some (.string s)) : Calls Tryz.prog 67 #[.pointer (some ⟨b, o, none⟩)] w fun e w' => e = .returned (.string s) ∧ Below w.heap.size w w' := by
 go_enter func67, ntmps67
 go_wp2
 go_ret
 exact ⟨rfl, Below.refl _ _⟩
def plainUr (u : SU) : Ur := ⟨u.scheme.data.toList, u.raw.data.toList, u.star, u.slashes, u.user.data.toList, u.pass.data.toList, u.host.data.toList, u.port, [], []⟩
theorem UrR.mk10 {w : World} {u : Ur} {v0 v1 v4 v5 v6 v8 v9 : Value} (h0 : Bs w v0 u.scheme) (h1 : Bs w v1 u.raw) (h4 : Bs w v4 u.user) (h5 : Bs w v5 u.pass) (h6 : Bs w v6 u.host) (h8 : KVs w v8 u.ps) (h9 : KVs w v9 u.hs) (lo : -9223372036854775808 ≤ u.port) (hi : u.port ≤ 9223372036854775807) :
 UrR w #[v0, v1, .bool u.star, .bool u.slashes, v4, v5, v6, .int .i64 u.port, v8, v9] u :=
 ⟨rfl, ⟨_, rfl, h0⟩, ⟨_, rfl, h1⟩, rfl, rfl, ⟨_, rfl, h4⟩, ⟨_, rfl, h5⟩, ⟨_, rfl, h6⟩, rfl, ⟨_, rfl, h8⟩, ⟨_, rfl, h9⟩, lo, hi⟩
theorem place_nil (cs : Array Value) (u : SU) (w : World) (h : SUR w cs u) (h8 : u.ps = []) (h9 : u.hs = []) (hz : u.scheme.size ≤ 1000000000 ∧ u.raw.size ≤ 1000000000 ∧ u.user.size ≤ 1000000000 ∧ u.pass.size ≤ 1000000000 ∧ u.host.size ≤ 1000000000) :
 Calls Tryz.prog 49 #[.agg cs] w fun e w' => ∃ cs', e = .returned (.agg cs') ∧ (∀ w2, Agr w.heap.size w' w2 → UrR w2 cs' (plainUr u)) ∧ Below w.heap.size w w' := by
 obtain ⟨v8, v9, hcs, p8, p9⟩ := h.cellsEq
 rw [h8] at p8
 rw [h9] at p9
 obtain ⟨A8, c8, rfl⟩ := p8.shape
 obtain ⟨A9, c9, rfl⟩ := p9.shape
 have hlo := h.portLo
 have hhi := h.portHi
 subst hcs
 clear p8 p9 h h8 h9
 obtain ⟨z0, z1, z4, z5, z6⟩ := hz
 have y0 : u.scheme.size ≤ 4611686018427387904 := by omega
 have y1 : u.raw.size ≤ 4611686018427387904 := by omega
 have y4 : u.user.size ≤ 4611686018427387904 := by omega
 have y5 : u.pass.size ≤ 4611686018427387904 := by omega
 have y6 : u.host.size ≤ 4611686018427387904 := by omega
 clear z0 z1 z4 z5 z6
 obtain ⟨W0, hW0⟩ : ∃ W0, W0 = (w.alloc (.cells (uCells u (.slice A8 0 c8) (.slice A9 0 c9)).toArray 74)).alloc (.cells #[.slice none 0 0, .slice none 0 0, .bool false, .bool false, .slice none 0 0, .slice none 0 0, .slice none 0 0, .int .i64 0, .slice none 0 0, .slice none 0 0] 25) := ⟨_, rfl⟩
 have hS0 : Below w.heap.size w W0 ∧ Blk W0 w.heap.size (uCells u (.slice A8 0 c8) (.slice A9 0 c9)).toArray 74 ∧ isRow W0 (w.heap.size + 1) 25 10 := by
  refine ⟨by rw [hW0]; exact (below_alloc w _).trans ((below_alloc _ _).mono (by simp)), ?_, ?_⟩
  ·have h1 := (Blk.new w (uCells u (.slice A8 0 c8) (.slice A9 0 c9)).toArray 74).grow (below_alloc _ (.cells #[.slice none 0 0, .slice none 0 0, .bool false, .bool false, .slice none 0 0, .slice none 0 0, .slice none 0 0, .int .i64 0, .slice none 0 0, .slice none 0 0] 25))
   rw [hW0]; exact h1
  ·rw [hW0]
   simpa using isRow_alloc (w.alloc (.cells (uCells u (.slice A8 0 c8) (.slice A9 0 c9)).toArray 74)) #[.slice none 0 0, .slice none 0 0, .bool false, .bool false, .slice none 0 0, .slice none 0 0, .slice none 0 0, .int .i64 0, .slice none 0 0, .slice none 0 0] 25
 have HW0 := Lib.hid hW0
 clear hW0
 go_enter func49, ntmps49
 go_upto_region 1 with fail
 simp only [uCells, List.size_toArray] at hS0 HW0 ⊢
 rw [← HW0.out]
 clear HW0
 refine wp_region_noPanic ?_
 have hSd : (fun w' => Below w.heap.size w w' ∧ Blk w' w.heap.size #[.string u.scheme, .string u.raw, .bool u.star, .bool u.slashes, .string u.user, .string u.pass, .string u.host, .int .i64 u.port, .slice A8 0 c8, .slice A9 0 c9] 74 ∧ isRow w' (w.heap.size + 1) 25 10) (W0).drew := ⟨hS0.1.trans (by exact ⟨rfl, rfl, rfl, Nat.le_refl _, fun _ _ => rfl⟩), hS0.2.1, hS0.2.2⟩
 refine wp_region_held_drew (S := fun w' => Below w.heap.size w w' ∧ Blk w' w.heap.size #[.string u.scheme, .string u.raw, .bool u.star, .bool u.slashes, .string u.user, .string u.pass, .string u.host, .int .i64 u.port, .slice A8 0 c8, .slice A9 0 c9] 74 ∧ isRow w' (w.heap.size + 1) 25 10) (by kernel_rfl) hSd (fun _ => ?_)
 refine wpAnyH_rel (R := fun i vv wv => match i with | 0 => vv = (.pointer (some ⟨w.heap.size, 0, none⟩)) | 1 => vv = (.string u.scheme) | 2 => (fun v w' => ∀ w2, Agr (w.heap.size + 2) w' w2 → Bs w2 v u.scheme.data.toList) vv wv | 3 => (fun v _ => v = .string u.raw) vv wv | 4 => (fun v w' => ∀ w2, Agr (w.heap.size + 2) w' w2 → Bs w2 v u.raw.data.toList) vv wv | 5 => vv = (.pointer (some ⟨w.heap.size, 2, none⟩)) | 6 => vv = (.bool u.star) | 7 => vv = (.pointer (some ⟨w.heap.size, 3, none⟩)) | 8 => vv = (.bool u.slashes) | 9 => vv = (.pointer (some ⟨w.heap.size, 4, none⟩)) | 10 => vv = (.string u.user) | 11 => (fun v w' => ∀ w2, Agr (w.heap.size + 2) w' w2 → Bs w2 v u.user.data.toList) vv wv | 12 => vv = (.pointer (some ⟨w.heap.size, 5, none⟩)) | 13 => vv = (.string u.pass) | 14 => (fun v w' => ∀ w2, Agr (w.heap.size + 2) w' w2 → Bs w2 v u.pass.data.toList) vv wv | 15 => vv = (.pointer (some ⟨w.heap.size, 6, none⟩)) | 16 => vv = (.string u.host) | 17 => (fun v w' => ∀ w2, Agr (w.heap.size + 2) w' w2 → Bs w2 v u.host.data.toList) vv wv | 18 => vv = (.pointer (some ⟨w.heap.size, 7, none⟩)) | 19 => vv = (.int .i64 u.port) | 20 => vv = (.pointer (some ⟨w.heap.size, 8, none⟩)) | 21 => vv = (.slice A8 0 c8) | 22 => (fun v _ => v = .slice none 0 0) vv wv | 23 => vv = (.pointer (some ⟨w.heap.size, 9, none⟩)) | 24 => vv = (.slice A9 0 c9) | 25 => (fun v _ => v = .slice none 0 0) vv wv | 26 => (fun v w' => ∃ cs, v = .agg cs ∧ ∀ w2, Agr (w.heap.size + 2) w' w2 → UrR w2 cs (plainUr u)) vv wv | _ => True) _ (by kernel_rfl) (by kernel_rfl) (by kernel_rfl) ?hM ?hstep ?hlast _ _ _ _ (by kernel_rfl) (by kernel_rfl) hSd ⟨rfl, rfl, fun _ _ => rfl⟩ (fun i hi => absurd hi (rep_false _ i)) (fun j o hj => absurd hj (rep_false _ j)) (by decide)
 case hM =>
  intro i vv wv w2 hS hS2 hb h
  match i, h with
  | 0, h => exact h
  | 1, h => exact h
  | 2, h => exact fun w3 h3 => h w3 (Agr.of hb h3)
  | 3, h => exact h
  | 4, h => exact fun w3 h3 => h w3 (Agr.of hb h3)
  | 5, h => exact h
  | 6, h => exact h
  | 7, h => exact h
  | 8, h => exact h
  | 9, h => exact h
  | 10, h => exact h
  | 11, h => exact fun w3 h3 => h w3 (Agr.of hb h3)
  | 12, h => exact h
  | 13, h => exact h
  | 14, h => exact fun w3 h3 => h w3 (Agr.of hb h3)
  | 15, h => exact h
  | 16, h => exact h
  | 17, h => exact fun w3 h3 => h w3 (Agr.of hb h3)
  | 18, h => exact h
  | 19, h => exact h
  | 20, h => exact h
  | 21, h => exact h
  | 22, h => exact h
  | 23, h => exact h
  | 24, h => exact h
  | 25, h => exact h
  | 26, h => exact (by obtain ⟨cs, q1, q2⟩ := h; exact ⟨cs, q1, fun w3 h3 => q2 w3 (Agr.of hb h3)⟩)
  | _ + 27, _ => exact trivial
 case hstep =>
  intro i o ho hi a wv hS hF hdep K hK
  have hi : i + 1 < 28 := hi
  rcases (show i = 0 ∨ i = 1 ∨ i = 2 ∨ i = 3 ∨ i = 4 ∨ i = 5 ∨ i = 6 ∨ i = 7 ∨ i = 8 ∨ i = 9 ∨ i = 10 ∨ i = 11 ∨ i = 12 ∨ i = 13 ∨ i = 14 ∨ i = 15 ∨ i = 16 ∨ i = 17 ∨ i = 18 ∨ i = 19 ∨ i = 20 ∨ i = 21 ∨ i = 22 ∨ i = 23 ∨ i = 24 ∨ i = 25 ∨ i = 26 by omega) with rfl | rfl | rfl | rfl | rfl | rfl | rfl | rfl | rfl | rfl | rfl | rfl | rfl | rfl | rfl | rfl | rfl | rfl | rfl | rfl | rfl | rfl | rfl | rfl | rfl | rfl | rfl
  ·have ho : (⟨some 3, Go.Op.fieldAddr 74 (Go.Operand.tmp 1) 0, 0, _, _, none⟩ : Oper) = o := Option.some.inj ho
   subst ho
   have e1 : a.tmps.getD 1 undef = (.pointer (some ⟨w.heap.size, 0, none⟩)) := hF.same 1 (noDst_at (by kernel_rfl))
   exact st_p (.pointer (some ⟨w.heap.size, 0, none⟩)) rfl (by unfold execOp; simp only [Act.eval, e1]; kernel_rfl) (hK _ _ hS rfl (Below.refl _ _))
  ·have ho : (⟨some 4, Go.Op.load 9 (Go.Operand.tmp 3), 9, _, _, none⟩ : Oper) = o := Option.some.inj ho
   subst ho
   have e3 : a.tmps.getD 3 undef = (.pointer (some ⟨w.heap.size, 0, none⟩)) := hdep ⟨0, .data⟩ (by simp) (by kernel_rfl)
   exact st_y (.string u.scheme) (ld_run 9 (ho := rfl) (hx := e3) underlying9 rfl ((show ∀ w', (fun w' => Below w.heap.size w w' ∧ Blk w' w.heap.size #[.string u.scheme, .string u.raw, .bool u.star, .bool u.slashes, .string u.user, .string u.pass, .string u.host, .int .i64 u.port, .slice A8 0 c8, .slice A9 0 c9] 74 ∧ isRow w' (w.heap.size + 1) 25 10) w' → w'.cell? ⟨w.heap.size, 0, none⟩ = some (.string u.scheme) from fun w' h => h.2.1.cell 0 _ rfl) _ hS)) (hK _ _ hS rfl (Below.refl _ _))
  ·have ho : (⟨some 5, Go.Op.convert 9 22 (Go.Operand.tmp 4), 22, _, _, none⟩ : Oper) = o := Option.some.inj ho
   subst ho
   have e4 : a.tmps.getD 4 undef = (.string u.scheme) := hdep ⟨1, .data⟩ (by simp) (by kernel_rfl)
   exact st_conv_off 9 22 5 rfl (by exact e4) y0 underlying9 underlying22 underlying5 (w.heap.size + 2) (by have := hS.2.2.lt; omega) fun v W hb hB => hK v W ⟨hS.1.trans (hB.mono hS.1.size), hS.2.1.grow hB, hS.2.2.grow hB⟩ hb hB
  ·have ho : (⟨some 6, Go.Op.call { callee := Go.Callee.value (Go.Operand.func 67), args := #[Go.Operand.tmp 1], argTypes := #[74] }, 9, _, _, none⟩ : Oper) = o := Option.some.inj ho
   subst ho
   have e1 : a.tmps.getD 1 undef = (.pointer (some ⟨w.heap.size, 0, none⟩)) := hF.same 1 (noDst_at (by kernel_rfl))
   exact step_call rfl 67 _ _ func67 (by kernel_rfl) (by kernel_rfl) rfl #[.pointer (some ⟨w.heap.size, 0, none⟩)] (by simp only [List.map_toArray, List.map_cons, List.map_nil, Act.eval, e1]) (uriRaw_c w.heap.size 0 u.raw wv (hS.2.1.cell 1 _ rfl)) fun e w' h => ⟨_, h.1, hK _ w' ⟨hS.1.trans (h.2.mono hS.1.size), hS.2.1.grow h.2, hS.2.2.grow h.2⟩ rfl h.2⟩
  ·have ho : (⟨some 7, Go.Op.convert 9 22 (Go.Operand.tmp 6), 22, _, _, none⟩ : Oper) = o := Option.some.inj ho
   subst ho
   have r6 : (fun v _ => v = .string u.raw) (a.tmps.getD 6 undef) wv := hdep ⟨3, .data⟩ (by simp) (by kernel_rfl)
   exact st_conv_off 9 22 5 rfl (by exact r6) y1 underlying9 underlying22 underlying5 (w.heap.size + 2) (by have := hS.2.2.lt; omega) fun v W hb hB => hK v W ⟨hS.1.trans (hB.mono hS.1.size), hS.2.1.grow hB, hS.2.2.grow hB⟩ hb hB
  ·have ho : (⟨some 8, Go.Op.fieldAddr 74 (Go.Operand.tmp 1) 2, 0, _, _, none⟩ : Oper) = o := Option.some.inj ho
   subst ho
   have e1 : a.tmps.getD 1 undef = (.pointer (some ⟨w.heap.size, 0, none⟩)) := hF.same 1 (noDst_at (by kernel_rfl))
   exact st_p (.pointer (some ⟨w.heap.size, 2, none⟩)) rfl (by unfold execOp; simp only [Act.eval, e1]; kernel_rfl) (hK _ _ hS rfl (Below.refl _ _))
  ·have ho : (⟨some 9, Go.Op.load 4 (Go.Operand.tmp 8), 4, _, _, none⟩ : Oper) = o := Option.some.inj ho
   subst ho
   have e8 : a.tmps.getD 8 undef = (.pointer (some ⟨w.heap.size, 2, none⟩)) := hdep ⟨5, .data⟩ (by simp) (by kernel_rfl)
   exact st_y (.bool u.star) (ld_run 4 (ho := rfl) (hx := e8) underlying4 rfl ((show ∀ w', (fun w' => Below w.heap.size w w' ∧ Blk w' w.heap.size #[.string u.scheme, .string u.raw, .bool u.star, .bool u.slashes, .string u.user, .string u.pass, .string u.host, .int .i64 u.port, .slice A8 0 c8, .slice A9 0 c9] 74 ∧ isRow w' (w.heap.size + 1) 25 10) w' → w'.cell? ⟨w.heap.size, 2, none⟩ = some (.bool u.star) from fun w' h => h.2.1.cell 2 _ rfl) _ hS)) (hK _ _ hS rfl (Below.refl _ _))
  ·have ho : (⟨some 10, Go.Op.fieldAddr 74 (Go.Operand.tmp 1) 3, 0, _, _, none⟩ : Oper) = o := Option.some.inj ho
   subst ho
   have e1 : a.tmps.getD 1 undef = (.pointer (some ⟨w.heap.size, 0, none⟩)) := hF.same 1 (noDst_at (by kernel_rfl))
   exact st_p (.pointer (some ⟨w.heap.size, 3, none⟩)) rfl (by unfold execOp; simp only [Act.eval, e1]; kernel_rfl) (hK _ _ hS rfl (Below.refl _ _))
  ·have ho : (⟨some 11, Go.Op.load 4 (Go.Operand.tmp 10), 4, _, _, none⟩ : Oper) = o := Option.some.inj ho
   subst ho
   have e10 : a.tmps.getD 10 undef = (.pointer (some ⟨w.heap.size, 3, none⟩)) := hdep ⟨7, .data⟩ (by simp) (by kernel_rfl)
   exact st_y (.bool u.slashes) (ld_run 4 (ho := rfl) (hx := e10) underlying4 rfl ((show ∀ w', (fun w' => Below w.heap.size w w' ∧ Blk w' w.heap.size #[.string u.scheme, .string u.raw, .bool u.star, .bool u.slashes, .string u.user, .string u.pass, .string u.host, .int .i64 u.port, .slice A8 0 c8, .slice A9 0 c9] 74 ∧ isRow w' (w.heap.size + 1) 25 10) w' → w'.cell? ⟨w.heap.size, 3, none⟩ = some (.bool u.slashes) from fun w' h => h.2.1.cell 3 _ rfl) _ hS)) (hK _ _ hS rfl (Below.refl _ _))
  ·have ho : (⟨some 12, Go.Op.fieldAddr 74 (Go.Operand.tmp 1) 4, 0, _, _, none⟩ : Oper) = o := Option.some.inj ho
   subst ho
   have e1 : a.tmps.getD 1 undef = (.pointer (some ⟨w.heap.size, 0, none⟩)) := hF.same 1 (noDst_at (by kernel_rfl))
   exact st_p (.pointer (some ⟨w.heap.size, 4, none⟩)) rfl (by unfold execOp; simp only [Act.eval, e1]; kernel_rfl) (hK _ _ hS rfl (Below.refl _ _))
  ·have ho : (⟨some 13, Go.Op.load 9 (Go.Operand.tmp 12), 9, _, _, none⟩ : Oper) = o := Option.some.inj ho
   subst ho
   have e12 : a.tmps.getD 12 undef = (.pointer (some ⟨w.heap.size, 4, none⟩)) := hdep ⟨9, .data⟩ (by simp) (by kernel_rfl)
   exact st_y (.string u.user) (ld_run 9 (ho := rfl) (hx := e12) underlying9 rfl ((show ∀ w', (fun w' => Below w.heap.size w w' ∧ Blk w' w.heap.size #[.string u.scheme, .string u.raw, .bool u.star, .bool u.slashes, .string u.user, .string u.pass, .string u.host, .int .i64 u.port, .slice A8 0 c8, .slice A9 0 c9] 74 ∧ isRow w' (w.heap.size + 1) 25 10) w' → w'.cell? ⟨w.heap.size, 4, none⟩ = some (.string u.user) from fun w' h => h.2.1.cell 4 _ rfl) _ hS)) (hK _ _ hS rfl (Below.refl _ _))
  ·have ho : (⟨some 14, Go.Op.convert 9 22 (Go.Operand.tmp 13), 22, _, _, none⟩ : Oper) = o := Option.some.inj ho
   subst ho
   have e13 : a.tmps.getD 13 undef = (.string u.user) := hdep ⟨10, .data⟩ (by simp) (by kernel_rfl)
   exact st_conv_off 9 22 5 rfl (by exact e13) y4 underlying9 underlying22 underlying5 (w.heap.size + 2) (by have := hS.2.2.lt; omega) fun v W hb hB => hK v W ⟨hS.1.trans (hB.mono hS.1.size), hS.2.1.grow hB, hS.2.2.grow hB⟩ hb hB
  ·have ho : (⟨some 15, Go.Op.fieldAddr 74 (Go.Operand.tmp 1) 5, 0, _, _, none⟩ : Oper) = o := Option.some.inj ho
   subst ho
   have e1 : a.tmps.getD 1 undef = (.pointer (some ⟨w.heap.size, 0, none⟩)) := hF.same 1 (noDst_at (by kernel_rfl))
   exact st_p (.pointer (some ⟨w.heap.size, 5, none⟩)) rfl (by unfold execOp; simp only [Act.eval, e1]; kernel_rfl) (hK _ _ hS rfl (Below.refl _ _))
  ·have ho : (⟨some 16, Go.Op.load 9 (Go.Operand.tmp 15), 9, _, _, none⟩ : Oper) = o := Option.some.inj ho
   subst ho
   have e15 : a.tmps.getD 15 undef = (.pointer (some ⟨w.heap.size, 5, none⟩)) := hdep ⟨12, .data⟩ (by simp) (by kernel_rfl)
   exact st_y (.string u.pass) (ld_run 9 (ho := rfl) (hx := e15) underlying9 rfl ((show ∀ w', (fun w' => Below w.heap.size w w' ∧ Blk w' w.heap.size #[.string u.scheme, .string u.raw, .bool u.star, .bool u.slashes, .string u.user, .string u.pass, .string u.host, .int .i64 u.port, .slice A8 0 c8, .slice A9 0 c9] 74 ∧ isRow w' (w.heap.size + 1) 25 10) w' → w'.cell? ⟨w.heap.size, 5, none⟩ = some (.string u.pass) from fun w' h => h.2.1.cell 5 _ rfl) _ hS)) (hK _ _ hS rfl (Below.refl _ _))
  ·have ho : (⟨some 17, Go.Op.convert 9 22 (Go.Operand.tmp 16), 22, _, _, none⟩ : Oper) = o := Option.some.inj ho
   subst ho
   have e16 : a.tmps.getD 16 undef = (.string u.pass) := hdep ⟨13, .data⟩ (by simp) (by kernel_rfl)
   exact st_conv_off 9 22 5 rfl (by exact e16) y5 underlying9 underlying22 underlying5 (w.heap.size + 2) (by have := hS.2.2.lt; omega) fun v W hb hB => hK v W ⟨hS.1.trans (hB.mono hS.1.size), hS.2.1.grow hB, hS.2.2.grow hB⟩ hb hB
  ·have ho : (⟨some 18, Go.Op.fieldAddr 74 (Go.Operand.tmp 1) 6, 0, _, _, none⟩ : Oper) = o := Option.some.inj ho
   subst ho
   have e1 : a.tmps.getD 1 undef = (.pointer (some ⟨w.heap.size, 0, none⟩)) := hF.same 1 (noDst_at (by kernel_rfl))
   exact st_p (.pointer (some ⟨w.heap.size, 6, none⟩)) rfl (by unfold execOp; simp only [Act.eval, e1]; kernel_rfl) (hK _ _ hS rfl (Below.refl _ _))
  ·have ho : (⟨some 19, Go.Op.load 9 (Go.Operand.tmp 18), 9, _, _, none⟩ : Oper) = o := Option.some.inj ho
   subst ho
   have e18 : a.tmps.getD 18 undef = (.pointer (some ⟨w.heap.size, 6, none⟩)) := hdep ⟨15, .data⟩ (by simp) (by kernel_rfl)
   exact st_y (.string u.host) (ld_run 9 (ho := rfl) (hx := e18) underlying9 rfl ((show ∀ w', (fun w' => Below w.heap.size w w' ∧ Blk w' w.heap.size #[.string u.scheme, .string u.raw, .bool u.star, .bool u.slashes, .string u.user, .string u.pass, .string u.host, .int .i64 u.port, .slice A8 0 c8, .slice A9 0 c9] 74 ∧ isRow w' (w.heap.size + 1) 25 10) w' → w'.cell? ⟨w.heap.size, 6, none⟩ = some (.string u.host) from fun w' h => h.2.1.cell 6 _ rfl) _ hS)) (hK _ _ hS rfl (Below.refl _ _))
  ·have ho : (⟨some 20, Go.Op.convert 9 22 (Go.Operand.tmp 19), 22, _, _, none⟩ : Oper) = o := Option.some.inj ho
   subst ho
   have e19 : a.tmps.getD 19 undef = (.string u.host) := hdep ⟨16, .data⟩ (by simp) (by kernel_rfl)
   exact st_conv_off 9 22 5 rfl (by exact e19) y6 underlying9 underlying22 underlying5 (w.heap.size + 2) (by have := hS.2.2.lt; omega) fun v W hb hB => hK v W ⟨hS.1.trans (hB.mono hS.1.size), hS.2.1.grow hB, hS.2.2.grow hB⟩ hb hB
  ·have ho : (⟨some 21, Go.Op.fieldAddr 74 (Go.Operand.tmp 1) 7, 0, _, _, none⟩ : Oper) = o := Option.some.inj ho
   subst ho
   have e1 : a.tmps.getD 1 undef = (.pointer (some ⟨w.heap.size, 0, none⟩)) := hF.same 1 (noDst_at (by kernel_rfl))
   exact st_p (.pointer (some ⟨w.heap.size, 7, none⟩)) rfl (by unfold execOp; simp only [Act.eval, e1]; kernel_rfl) (hK _ _ hS rfl (Below.refl _ _))
  ·have ho : (⟨some 22, Go.Op.load 3 (Go.Operand.tmp 21), 3, _, _, none⟩ : Oper) = o := Option.some.inj ho
   subst ho
   have e21 : a.tmps.getD 21 undef = (.pointer (some ⟨w.heap.size, 7, none⟩)) := hdep ⟨18, .data⟩ (by simp) (by kernel_rfl)
   exact st_y (.int .i64 u.port) (ld_run 3 (ho := rfl) (hx := e21) underlying3 rfl ((show ∀ w', (fun w' => Below w.heap.size w w' ∧ Blk w' w.heap.size #[.string u.scheme, .string u.raw, .bool u.star, .bool u.slashes, .string u.user, .string u.pass, .string u.host, .int .i64 u.port, .slice A8 0 c8, .slice A9 0 c9] 74 ∧ isRow w' (w.heap.size + 1) 25 10) w' → w'.cell? ⟨w.heap.size, 7, none⟩ = some (.int .i64 u.port) from fun w' h => h.2.1.cell 7 _ rfl) _ hS)) (hK _ _ hS rfl (Below.refl _ _))
  ·have ho : (⟨some 23, Go.Op.fieldAddr 74 (Go.Operand.tmp 1) 8, 0, _, _, none⟩ : Oper) = o := Option.some.inj ho
   subst ho
   have e1 : a.tmps.getD 1 undef = (.pointer (some ⟨w.heap.size, 0, none⟩)) := hF.same 1 (noDst_at (by kernel_rfl))
   exact st_p (.pointer (some ⟨w.heap.size, 8, none⟩)) rfl (by unfold execOp; simp only [Act.eval, e1]; kernel_rfl) (hK _ _ hS rfl (Below.refl _ _))
  ·have ho : (⟨some 24, Go.Op.load 72 (Go.Operand.tmp 23), 72, _, _, none⟩ : Oper) = o := Option.some.inj ho
   subst ho
   have e23 : a.tmps.getD 23 undef = (.pointer (some ⟨w.heap.size, 8, none⟩)) := hdep ⟨20, .data⟩ (by simp) (by kernel_rfl)
   exact st_y (.slice A8 0 c8) (ld_run 72 (ho := rfl) (hx := e23) underlying72 rfl ((show ∀ w', (fun w' => Below w.heap.size w w' ∧ Blk w' w.heap.size #[.string u.scheme, .string u.raw, .bool u.star, .bool u.slashes, .string u.user, .string u.pass, .string u.host, .int .i64 u.port, .slice A8 0 c8, .slice A9 0 c9] 74 ∧ isRow w' (w.heap.size + 1) 25 10) w' → w'.cell? ⟨w.heap.size, 8, none⟩ = some (.slice A8 0 c8) from fun w' h => h.2.1.cell 8 _ rfl) _ hS)) (hK _ _ hS rfl (Below.refl _ _))
  ·have ho : (⟨some 25, Go.Op.call { callee := Go.Callee.value (Go.Operand.func 68), args := #[Go.Operand.tmp 24], argTypes := #[72] }, 23, _, _, none⟩ : Oper) = o := Option.some.inj ho
   subst ho
   have e24 : a.tmps.getD 24 undef = (.slice A8 0 c8) := hdep ⟨21, .data⟩ (by simp) (by kernel_rfl)
   exact step_call rfl 68 _ _ func68 (by kernel_rfl) (by kernel_rfl) rfl #[.slice A8 0 c8] (by simp only [List.map_toArray, List.map_cons, List.map_nil, Act.eval, e24]) (pairs_nil A8 c8 wv) fun e w' h => ⟨_, h.1, hK _ w' ⟨hS.1.trans (h.2.mono hS.1.size), hS.2.1.grow h.2, hS.2.2.grow h.2⟩ rfl h.2⟩
  ·have ho : (⟨some 26, Go.Op.fieldAddr 74 (Go.Operand.tmp 1) 9, 0, _, _, none⟩ : Oper) = o := Option.some.inj ho
   subst ho
   have e1 : a.tmps.getD 1 undef = (.pointer (some ⟨w.heap.size, 0, none⟩)) := hF.same 1 (noDst_at (by kernel_rfl))
   exact st_p (.pointer (some ⟨w.heap.size, 9, none⟩)) rfl (by unfold execOp; simp only [Act.eval, e1]; kernel_rfl) (hK _ _ hS rfl (Below.refl _ _))
  ·have ho : (⟨some 27, Go.Op.load 72 (Go.Operand.tmp 26), 72, _, _, none⟩ : Oper) = o := Option.some.inj ho
   subst ho
   have e26 : a.tmps.getD 26 undef = (.pointer (some ⟨w.heap.size, 9, none⟩)) := hdep ⟨23, .data⟩ (by simp) (by kernel_rfl)
   exact st_y (.slice A9 0 c9) (ld_run 72 (ho := rfl) (hx := e26) underlying72 rfl ((show ∀ w', (fun w' => Below w.heap.size w w' ∧ Blk w' w.heap.size #[.string u.scheme, .string u.raw, .bool u.star, .bool u.slashes, .string u.user, .string u.pass, .string u.host, .int .i64 u.port, .slice A8 0 c8, .slice A9 0 c9] 74 ∧ isRow w' (w.heap.size + 1) 25 10) w' → w'.cell? ⟨w.heap.size, 9, none⟩ = some (.slice A9 0 c9) from fun w' h => h.2.1.cell 9 _ rfl) _ hS)) (hK _ _ hS rfl (Below.refl _ _))
  ·have ho : (⟨some 28, Go.Op.call { callee := Go.Callee.value (Go.Operand.func 68), args := #[Go.Operand.tmp 27], argTypes := #[72] }, 23, _, _, none⟩ : Oper) = o := Option.some.inj ho
   subst ho
   have e27 : a.tmps.getD 27 undef = (.slice A9 0 c9) := hdep ⟨24, .data⟩ (by simp) (by kernel_rfl)
   exact step_call rfl 68 _ _ func68 (by kernel_rfl) (by kernel_rfl) rfl #[.slice A9 0 c9] (by simp only [List.map_toArray, List.map_cons, List.map_nil, Act.eval, e27]) (pairs_nil A9 c9 wv) fun e w' h => ⟨_, h.1, hK _ w' ⟨hS.1.trans (h.2.mono hS.1.size), hS.2.1.grow h.2, hS.2.2.grow h.2⟩ rfl h.2⟩
  ·have ho : (⟨some 29, Go.Op.build 25 #[(0, Go.Operand.tmp 5), (1, Go.Operand.tmp 7), (2, Go.Operand.tmp 9), (3, Go.Operand.tmp 11), (4, Go.Operand.tmp 14), (5, Go.Operand.tmp 17), (6, Go.Operand.tmp 20), (7, Go.Operand.tmp 22), (8, Go.Operand.tmp 25), (9, Go.Operand.tmp 28)], 25, _, _, none⟩ : Oper) = o := Option.some.inj ho
   subst ho
   have r5 : (fun v w' => ∀ w2, Agr (w.heap.size + 2) w' w2 → Bs w2 v u.scheme.data.toList) (a.tmps.getD 5 undef) wv := hdep ⟨2, .data⟩ (by simp) (by kernel_rfl)
   have r7 : (fun v w' => ∀ w2, Agr (w.heap.size + 2) w' w2 → Bs w2 v u.raw.data.toList) (a.tmps.getD 7 undef) wv := hdep ⟨4, .data⟩ (by simp) (by kernel_rfl)
   have e9 : a.tmps.getD 9 undef = (.bool u.star) := hdep ⟨6, .data⟩ (by simp) (by kernel_rfl)
   have e11 : a.tmps.getD 11 undef = (.bool u.slashes) := hdep ⟨8, .data⟩ (by simp) (by kernel_rfl)
   have r14 : (fun v w' => ∀ w2, Agr (w.heap.size + 2) w' w2 → Bs w2 v u.user.data.toList) (a.tmps.getD 14 undef) wv := hdep ⟨11, .data⟩ (by simp) (by kernel_rfl)
   have r17 : (fun v w' => ∀ w2, Agr (w.heap.size + 2) w' w2 → Bs w2 v u.pass.data.toList) (a.tmps.getD 17 undef) wv := hdep ⟨14, .data⟩ (by simp) (by kernel_rfl)
   have r20 : (fun v w' => ∀ w2, Agr (w.heap.size + 2) w' w2 → Bs w2 v u.host.data.toList) (a.tmps.getD 20 undef) wv := hdep ⟨17, .data⟩ (by simp) (by kernel_rfl)
   have e22 : a.tmps.getD 22 undef = (.int .i64 u.port) := hdep ⟨19, .data⟩ (by simp) (by kernel_rfl)
   have r25 : (fun v _ => v = .slice none 0 0) (a.tmps.getD 25 undef) wv := hdep ⟨22, .data⟩ (by simp) (by kernel_rfl)
   have r28 : (fun v _ => v = .slice none 0 0) (a.tmps.getD 28 undef) wv := hdep ⟨25, .data⟩ (by simp) (by kernel_rfl)
   obtain ⟨a5, n5, q5⟩ := (r5 _ (Agr.refl _ _)).shape
   obtain ⟨a7, n7, q7⟩ := (r7 _ (Agr.refl _ _)).shape
   obtain ⟨a14, n14, q14⟩ := (r14 _ (Agr.refl _ _)).shape
   obtain ⟨a17, n17, q17⟩ := (r17 _ (Agr.refl _ _)).shape
   obtain ⟨a20, n20, q20⟩ := (r20 _ (Agr.refl _ _)).shape
   rw [q5] at r5
   rw [q7] at r7
   rw [q14] at r14
   rw [q17] at r17
   rw [q20] at r20
   exact st_build 25 _ rfl _ (by simp only [List.map_cons, List.map_nil, Act.eval, q5, q7, e9, e11, q14, q17, q20, e22, r25, r28]; rfl) _ (by kernel_rfl) (hK _ _ hS ⟨_, rfl, fun w3 h3 => UrR.mk10 (r5 w3 h3) (r7 w3 h3) (r14 w3 h3) (r17 w3 h3) (r20 w3 h3) (kvs_nil _) (kvs_nil _) hlo hhi⟩ (Below.refl _ _))
 case hlast =>
  intro o ho a wv hS hF hR K hK
  have ho : (⟨none, Go.Op.store 25 (Go.Operand.tmp 2) (Go.Operand.tmp 29), 0, _, _, none⟩ : Oper) = o := Option.some.inj ho
  subst ho
  have e2 : a.tmps.getD 2 undef = (.pointer (some ⟨w.heap.size + 1, 0, none⟩)) := hF.same 2 (noDst_at (by kernel_rfl))
  have r29 : (fun v w' => ∃ cs, v = .agg cs ∧ ∀ w2, Agr (w.heap.size + 2) w' w2 → UrR w2 cs (plainUr u)) (a.tmps.getD 29 undef) wv := hR 26 (by show 26 + 1 < 28; omega)
  obtain ⟨cs, q1, q2⟩ := r29
  have hk : cs.size = 10 := (q2 _ (Agr.refl _ _)).size
  refine step_store_row rfl 25 _ _ rfl (w.heap.size + 1) cs e2 q1 25 (hk ▸ hS.2.2) (by rw [hk]; kernel_rfl) (q2 _ (Agr.refl _ _)).one (hK _ _ ⟨hS.1.trans (below_setRow _ _ _ _ (by omega)), (setRow_other wv _ _ _ (by omega)).trans hS.2.1, isRow_set hS.2.2 _ hk⟩ ?_)
  obtain ⟨c0, g1, g2⟩ := hS.2.2
  have hg := setRow_heap wv (w.heap.size + 1) c0 cs _ _ g1
  refine NoPanic.normal (‹∀ (a : Act) (w : World), Code.wp Tryz.prog Code.ret _ a w → _› _ _ (wp_ret ?_))
  have hBB : Below w.heap.size w (wv.setRow (w.heap.size + 1) cs) := hS.1.trans (below_setRow _ _ _ _ (by omega))
  exact bodyPost_ret (results_cell_row rfl _ _ (w.heap.size + 1) _ cs _ _ e2 hg underlying25 rfl (by rw [hk]; kernel_rfl)) hF.defers ⟨cs, rfl, fun w3 h3 => q2 w3 ((agr_setRow (by omega) _ _).trans (h3.mono (by omega))), hBB⟩
end Go.Proofs.YtfcllhdhfenmcaaGreatDoor
