/- Part 33 of the proof: laws and walks (merged by a program). -/
import Derived.Test.YtfcllhdhfenmcaaGreatDoorK01
import Derived.Test.YtfcllhdhfenmcaaGreatDoorK23
import Derived.Test.YtfcllhdhfenmcaaGreatDoorK25
import Derived.Test.YtfcllhdhfenmcaaGreatDoorK28
import Derived.Test.YtfcllhdhfenmcaaGreatDoorK32
set_option linter.all false
set_option maxHeartbeats 8000000
set_option maxRecDepth 100000
namespace Go.Proofs.YtfcllhdhfenmcaaGreatDoor
open Go.RowKit Go.Proofs.Tryz
def bo : ByteArray := ⟨#[98, 46, 111, 114, 103]⟩
theorem fields_bo (x : Value) (w : World) : Calls Tryz.prog 143 #[.string ⟨#[98, 46, 111, 114, 103]⟩, .int .i64 0, .int .i64 5, x] w fun e w' => (∃ t p, e = .returned (.iface t p)) ∧ Below w.heap.size w w' := by
 go_enter func143, ntmps143
 have hs0 := Below.refl 0 w
 go_upto_region 0 with fail
 refine pS [_] ?_
 go_upto_region 1 with fail
 refine pS [_, _] ?_
 go_upto_region 2 with fail
 refine pS [_] ?_
 go_upto_region 3 with fail
 refine pS [_, _, _, .string ⟨#[98, 46, 111, 114, 103]⟩, _] ?_
 go_upto_region 4 with fail
 refine pS [_] ?_
 go_wp2_with fail
 go_loopw [13] (fun i wr => i = .int .i64 0 ∧ w = wr) (fun _ _ => 0)
 case atStart => exact ⟨rfl, rfl⟩
 case round =>
  obtain ⟨rfl, rfl⟩ := hrel
  go_upto_region 5 with fail
  refine pS [_, _, .int .i64 5, .bool true] ?_
  go_upto_region 7 with fail
  refine pS [_, _, .int .u8 98, .bool true, _, _, _, .int .u8 98, .bool false, .bool false] ?_
  go_upto_region 14 with fail
  refine pS [_, _, .int .u8 98, .bool false] ?_
  go_upto_region 23 with fail
  refine pS [_, _, _, .string ⟨#[98, 46, 111, 114, 103]⟩, .agg #[.string ⟨#[98, 46, 111, 114, 103]⟩, .string ⟨#[117, 110, 101, 120, 112, 101, 99, 116, 101, 100, 32, 99, 104, 97, 114, 97, 99, 116, 101, 114]⟩, .string ⟨#[98, 46, 111, 114, 103]⟩], .iface 215 (.agg #[.string ⟨#[98, 46, 111, 114, 103]⟩, .string ⟨#[117, 110, 101, 120, 112, 101, 99, 116, 101, 100, 32, 99, 104, 97, 114, 97, 99, 116, 101, 114]⟩, .string ⟨#[98, 46, 111, 114, 103]⟩]), _] ?_
  go_wp2
  go_ret
  exact ⟨⟨_, _, rfl⟩, Below.refl _ _⟩
theorem results_row2 {P : Program} {fn : Func} {p u : Tmp} {ty : TypeId} (h : fn.results = #[.cell p ty, .tmp u]) (tmps : Array Value) (w : World) (g : Nat) (cs : Array Value) (t : TypeId) (fr : Nat × Nat) (d : TypeDesc) (v : Value)
 (hp : tmps.getD p undef = .pointer (some ⟨g, 0, none⟩)) (hg : w.heap[g]? = some (.cells cs t fr)) (hv : tmps.getD u undef = v)
 (hu : P.underlying ty = some d) (hd : (match d with | .struct _ | .array _ _ => true | _ => false) = true) (hi : (P.info? ty).map (·.size) = some cs.size) :
 (results fn tmps).run P w = .ok (.tuple #[.agg cs, v]) w := by
 rw [results_cell_tmp h, hp, hv]
 simp [asAddr, run_loadVar_row w g t ty cs fr d hg hu hd hi]
theorem ipv4_bo (w : World) : Calls Tryz.prog 129 #[.string ⟨#[98, 46, 111, 114, 103]⟩] w fun e w' => (∃ cs t p, e = .returned (.tuple #[.agg cs, .iface t p]) ∧ cs = #[.int .u64 0, .int .u64 0, .pointer none]) ∧ Below w.heap.size w w' := by
 go_enter func129, ntmps129
 have hs0 := Below.refl w.heap.size w
 go_upto_region 0 with fail
 apply wR
 refine cN #[.int .u64 0, .int .u64 0, .pointer none] 201 ?_
 intro ba w1 ba_ge ba_lt hba hb1
 obtain ⟨hS1, hz1, hy1⟩ := zC hs0 hb1
 refine wP ?_
 refine pQ [_] ?_
 go_upto_region 1 with fail
 apply wR
 refine cN #[.int .u8 0, .int .u8 0, .int .u8 0, .int .u8 0] 229 ?_
 intro bb w2 bb_ge bb_lt hbb hb2
 obtain ⟨hS2, hz2, hy2⟩ := zC hS1 hb2
 replace hba := hba.grow hb2
 refine wP ?_
 refine wN ?_
 go_upto_region 2 with fail
 refine pR [_, _, .int .i64 5, .slice (some ⟨bb, 0, none⟩) 4 4] ?_
 refine cC func143 #[.string ⟨#[98, 46, 111, 114, 103]⟩, .int .i64 0, .int .i64 5, .slice (some ⟨bb, 0, none⟩) 4 4] (fields_bo _ w2) ?_
 rintro e w3 ⟨⟨et, ep, rfl⟩, hb3⟩
 refine cR ?_
 obtain ⟨hS3, hz3, hy3⟩ := zC hS2 hb3
 replace hba := hba.grow hb3
 replace hbb := hbb.grow hb3
 refine pQ [_] ?_
 go_upto_region 3 with fail
 refine pS [_, .bool true] ?_
 go_upto_region 4 with fail
 refine pR [.agg #[.int .u64 0, .int .u64 0, .pointer none], _] ?_
 refine cB 201 ba 0 [.int .u64 0, .int .u64 0, .pointer none] 201 hba ?_
 intro w4 hba' hO4
 replace hbb := hbb.oth hO4 (by omega)
 have hS4 := hS3.trans (hO4.below (by omega))
 have hz4 := hS4.size
 clear hba
 have hba := hba'
 clear hba'
 have hzz4 := hO4.size
 replace hO4 := Lib.hid hO4
 refine pQ [_] ?_
 go_wp2
 exact bodyPost_ret (results_row2 rfl _ _ _ _ _ _ _ _ rfl hba rfl underlying201 rfl (by kernel_rfl)) rfl ⟨⟨_, _, _, rfl, rfl⟩, hS4⟩
theorem addr_bo (w : World) : Calls Tryz.prog 116 #[.string ⟨#[98, 46, 111, 114, 103]⟩] w fun e w' => (∃ cs t p, e = .returned (.tuple #[.agg cs, .iface t p]) ∧ cs = #[.int .u64 0, .int .u64 0, .pointer none]) ∧ Below w.heap.size w w' := by
 go_enter func116, ntmps116
 have hs0 := Below.refl w.heap.size w
 go_upto_region 0 with fail
 apply wR
 refine cN #[.int .u64 0, .int .u64 0, .pointer none] 201 ?_
 intro ba w1 ba_ge ba_lt hba hb1
 obtain ⟨hS1, hz1, hy1⟩ := zC hs0 hb1
 refine wP ?_
 refine pQ [_] ?_
 go_upto_region 1 with fail
 refine pS [_] ?_
 have hge := ba_ge
 clear ba_ge ba_lt hs0 hb1
 go_wp2_with fail
 go_loopw [4] (fun i wr => (i = .int .i64 0 ∨ i = .int .i64 1) ∧ Below w.heap.size w wr ∧ Blk wr ba #[.int .u64 0, .int .u64 0, .pointer none] 201) (fun i _ => match i with | .int _ n => (2 - n).toNat | _ => 0)
 case atStart => exact ⟨.inl rfl, hS1, hba⟩
 case round =>
  clear hS1 hba
  obtain ⟨rfl | rfl, hs1, hba⟩ := hrel
  ·skip
   go_upto_region 2 with fail
   refine pS [_, _, .int .i64 5, .bool true] ?_
   go_upto_region 4 with fail
   refine pS [_, _, .int .u8 98] ?_
   go_upto_region 5 with fail
   refine pS [.bool false, _] ?_
   go_upto_region 7 with fail
   refine pS [.bool false, _] ?_
   go_upto_region 9 with fail
   refine pS [.bool false, _] ?_
   go_upto_region 3 with fail
   refine pS [_, .int .i64 1, _] ?_
   go_wp2
   exact ⟨⟨.inr rfl, hs1, hba⟩, by decide⟩
  ·skip
   go_upto_region 2 with fail
   refine pS [_, _, .int .i64 5, .bool true] ?_
   go_upto_region 4 with fail
   refine pS [_, _, .int .u8 46] ?_
   go_upto_region 5 with fail
   refine pS [.bool true, _] ?_
   go_upto_region 6 with fail
   refine pR [_] ?_
   refine cD func129 (ipv4_bo wr) ?_
   rintro e w2 ⟨⟨cs, et, ep, rfl, rfl⟩, hb2⟩
   refine cR ?_
   obtain ⟨hS2, hz2, hy2⟩ := zC hs1 hb2
   replace hba := hba.grow hb2
   refine pP [.agg #[.int .u64 0, .int .u64 0, .pointer none], .iface et ep] ?_
   refine cB 201 ba 0 [.int .u64 0, .int .u64 0, .pointer none] 201 hba ?_
   intro w3 hba' hO3
   have hS3 := hS2.trans (hO3.below (by omega))
   have hz3 := hS3.size
   clear hba
   have hba := hba'
   clear hba'
   have hzz3 := hO3.size
   replace hO3 := Lib.hid hO3
   refine pQ [_] ?_
   go_wp2
   exact bodyPost_ret (results_row2 rfl _ _ _ _ _ _ _ _ rfl hba rfl underlying201 rfl (by kernel_rfl)) rfl ⟨⟨_, _, _, rfl, rfl⟩, hS3⟩
theorem parseIP_bo (w : World) : Calls Tryz.prog 106 #[.string ⟨#[98, 46, 111, 114, 103]⟩] w fun e w' => (∃ cs, e = .returned (.tuple #[.agg cs, .bool false]) ∧ cs = #[.int .u8 0, .int .u8 0, .int .u8 0, .int .u8 0, .int .u8 0, .int .u8 0, .int .u8 0, .int .u8 0, .int .u8 0, .int .u8 0, .int .u8 0, .int .u8 0, .int .u8 0, .int .u8 0, .int .u8 0, .int .u8 0]) ∧ Below w.heap.size w w' := by
 go_enter func106, ntmps106
 have hs0 := Below.refl w.heap.size w
 go_upto_region 0 with fail
 apply wR
 refine cN #[.int .u8 0, .int .u8 0, .int .u8 0, .int .u8 0, .int .u8 0, .int .u8 0, .int .u8 0, .int .u8 0, .int .u8 0, .int .u8 0, .int .u8 0, .int .u8 0, .int .u8 0, .int .u8 0, .int .u8 0, .int .u8 0] 183 ?_
 intro ba w1 ba_ge ba_lt hba hb1
 obtain ⟨hS1, hz1, hy1⟩ := zC hs0 hb1
 refine wP ?_
 refine pQ [_] ?_
 go_upto_region 1 with fail
 refine pR [_] ?_
 refine cD func116 (addr_bo w1) ?_
 rintro e w2 ⟨⟨cs, et, ep, rfl, rfl⟩, hb2⟩
 refine cR ?_
 obtain ⟨hS2, hz2, hy2⟩ := zC hS1 hb2
 replace hba := hba.grow hb2
 refine pP [_, .agg #[.int .u64 0, .int .u64 0, .pointer none], .iface et ep] ?_
 refine cN #[.int .u64 0, .int .u64 0, .pointer none] 201 ?_
 intro bb w3 bb_ge bb_lt hbb hb3
 obtain ⟨hS3, hz3, hy3⟩ := zC hS2 hb3
 replace hba := hba.grow hb3
 refine wP ?_
 refine cB 201 bb 0 [.int .u64 0, .int .u64 0, .pointer none] 201 hbb ?_
 intro w4 hbb' hO4
 replace hba := hba.oth hO4 (by omega)
 have hS4 := hS3.trans (hO4.below (by omega))
 have hz4 := hS4.size
 clear hbb
 have hbb := hbb'
 clear hbb'
 have hzz4 := hO4.size
 replace hO4 := Lib.hid hO4
 refine pQ [_] ?_
 go_upto_region 2 with fail
 refine pR [_, .bool true, _] ?_
 refine Wl.u ?_
 refine Wl.u ?_
 refine Wl.u ?_
 refine pQ [.bool true] ?_
 go_upto_region 3 with fail
 refine pR [.agg #[.int .u8 0, .int .u8 0, .int .u8 0, .int .u8 0, .int .u8 0, .int .u8 0, .int .u8 0, .int .u8 0, .int .u8 0, .int .u8 0, .int .u8 0, .int .u8 0, .int .u8 0, .int .u8 0, .int .u8 0, .int .u8 0]] ?_
 refine cB 183 ba 0 [.int .u8 0, .int .u8 0, .int .u8 0, .int .u8 0, .int .u8 0, .int .u8 0, .int .u8 0, .int .u8 0, .int .u8 0, .int .u8 0, .int .u8 0, .int .u8 0, .int .u8 0, .int .u8 0, .int .u8 0, .int .u8 0] 183 hba ?_
 intro w5 hba' hO5
 replace hbb := hbb.oth hO5 (by omega)
 have hS5 := hS4.trans (hO5.below (by omega))
 have hz5 := hS5.size
 clear hba
 have hba := hba'
 clear hba'
 have hzz5 := hO5.size
 replace hO5 := Lib.hid hO5
 refine pQ [_] ?_
 go_wp2
 exact bodyPost_ret (results_row2 rfl _ _ _ _ _ _ _ _ rfl hba rfl underlying183 rfl (by kernel_rfl)) rfl ⟨⟨_, rfl, rfl⟩, hS5⟩
theorem parseIP2_bo (w : World) : Calls Tryz.prog 95 #[.string ⟨#[98, 46, 111, 114, 103]⟩] w fun e w' => e = .returned (.slice none 0 0) ∧ Below w.heap.size w w' := by
 go_enter func95, ntmps95
 have hs0 := Below.refl w.heap.size w
 go_upto_region 0 with fail
 refine pS [_] ?_
 go_upto_region 1 with fail
 refine pR [_] ?_
 refine cD func106 (parseIP_bo w) ?_
 rintro e w1 ⟨⟨cs, rfl, rfl⟩, hb1⟩
 refine cR ?_
 obtain ⟨hS1, hz1, hy1⟩ := zC hs0 hb1
 refine pP [_, .agg #[.int .u8 0, .int .u8 0, .int .u8 0, .int .u8 0, .int .u8 0, .int .u8 0, .int .u8 0, .int .u8 0, .int .u8 0, .int .u8 0, .int .u8 0, .int .u8 0, .int .u8 0, .int .u8 0, .int .u8 0, .int .u8 0], .bool false] ?_
 refine cN #[.int .u8 0, .int .u8 0, .int .u8 0, .int .u8 0, .int .u8 0, .int .u8 0, .int .u8 0, .int .u8 0, .int .u8 0, .int .u8 0, .int .u8 0, .int .u8 0, .int .u8 0, .int .u8 0, .int .u8 0, .int .u8 0] 183 ?_
 intro ba w2 ba_ge ba_lt hba hb2
 obtain ⟨hS2, hz2, hy2⟩ := zC hS1 hb2
 refine wP ?_
 refine cB 183 ba 0 [.int .u8 0, .int .u8 0, .int .u8 0, .int .u8 0, .int .u8 0, .int .u8 0, .int .u8 0, .int .u8 0, .int .u8 0, .int .u8 0, .int .u8 0, .int .u8 0, .int .u8 0, .int .u8 0, .int .u8 0, .int .u8 0] 183 hba ?_
 intro w3 hba' hO3
 have hS3 := hS2.trans (hO3.below (by omega))
 have hz3 := hS3.size
 clear hba
 have hba := hba'
 clear hba'
 have hzz3 := hO3.size
 replace hO3 := Lib.hid hO3
 refine pQ [_] ?_
 go_upto_region 2 with fail
 refine pS [_] ?_
 go_upto_region 4 with fail
 refine pS [_] ?_
 go_wp2
 go_ret
 exact ⟨rfl, hS3⟩
theorem dwb (s : ByteArray) (i : Nat) (h : i < s.size) : i + dw s i ≤ s.size := dw_le s i h
theorem isIPV6_bo (w : World) : Calls Tryz.prog 88 #[.string ⟨#[98, 46, 111, 114, 103]⟩] w fun e w' => e = .returned (.bool false) ∧ Below w.heap.size w w' := by
 go_enter func88, ntmps88
 go_upto_region 2 with fail
 obtain ⟨wi, hwi⟩ : ∃ wi, wi = w.iter ⟨#[98, 46, 111, 114, 103]⟩ 0 := ⟨_, rfl⟩
 have hit0 : Itr wi w.heap.size ⟨#[98, 46, 111, 114, 103]⟩ 0 := by rw [hwi]; exact World.iter_heap w _ 0
 have hB0 : Below w.heap.size w wi := by rw [hwi]; exact (Below.refl w.heap.size w).alloc (Nat.le_refl _) _
 rw [← hwi]
 clear hwi
 go_loopw [3] (fun _ wr => ∃ pos, pos ≤ 5 ∧ Itr wr w.heap.size ⟨#[98, 46, 111, 114, 103]⟩ pos ∧ Below w.heap.size w wr) (fun _ wr => 5 - wr.iterPos w.heap.size)
 case atStart => exact ⟨0, by omega, hit0, hB0⟩
 case round =>
  clear hit0 hB0
  obtain ⟨pos, hp5, hit, hs0⟩ := hrel
  rw [hit.pos]
  by_cases hlt : pos < (⟨#[98, 46, 111, 114, 103]⟩ : ByteArray).size
  ·have h1 := dw_le _ _ hlt
   have h2 := dw_pos _ _ hlt
   have h5 : (⟨#[98, 46, 111, 114, 103]⟩ : ByteArray).size = 5 := rfl
   rw [h5] at h1
   go_upto_region 2 with fail
   apply wR
   refine Wl.step (fun K hK => ?_)
   refine step_next rfl _ rfl w.heap.size ⟨#[98, 46, 111, 114, 103]⟩ pos (by kernel_rfl) hit hlt ?_
   intro w1 hit' hO
   have hS1 : Below w.heap.size w w1 := hs0.trans (hO.below (Nat.le_refl _))
   clear hit
   have hit : Itr w1 w.heap.size ⟨#[98, 46, 111, 114, 103]⟩ (pos + dw ⟨#[98, 46, 111, 114, 103]⟩ pos) := hit'
   clear hit' hO
   refine hK _ _ ?_
   clear hK K
   (try simp only [Act.put, zD, zE, zF])
   refine pQ [.bool true] ?_
   go_upto_region 3 with fail
   refine pS [.int .i64 (pos : Nat), _] ?_
   go_upto_region 4 with fail
   refine pR [_] ?_
   refine ieF .i64 (pos : Nat) 46 ?_
   refine wN ?_
   go_upto_region 6 with fail
   refine pR [_] ?_
   refine ieF .i64 (pos : Nat) 58 ?_
   refine wN ?_
   go_wp2
   exact ⟨⟨_, h1, hit, hS1⟩, by rw [hit.pos]; omega⟩
  ·skip
   go_upto_region 2 with fail
   apply wR
   refine Wl.step (fun K hK => ?_)
   refine step_next_end rfl _ rfl w.heap.size ⟨#[98, 46, 111, 114, 103]⟩ pos (by kernel_rfl) hit hlt ?_
   intro w1 hO
   have hS1 : Below w.heap.size w w1 := hO ▸ hs0
   clear hO
   refine hK _ _ ?_
   clear hK K
   (try simp only [Act.put, zD, zE, zF])
   refine pQ [.bool false] ?_
   go_upto_region 7 with fail
   refine pR [_] ?_
   refine cD func95 (parseIP2_bo w1) ?_
   rintro e w2 ⟨rfl, hb2⟩
   refine cR ?_
   obtain ⟨hS2, hz2, hy2⟩ := zC hS1 hb2
   refine pQ [_] ?_
   go_upto_region 8 with fail
   refine pR [_, .bool false, _] ?_
   refine Wl.u ?_
   refine Wl.u ?_
   refine Wl.u ?_
   refine pQ [.bool false, _] ?_
   go_wp2
   go_ret
   exact ⟨rfl, hS2⟩
def Bd (B b : Nat) (l : List UInt8) (w : World) : Prop := Lib.IsBuilder 136 5 B b (Lib.byteCells l) w
theorem builderAt_grow {T e : TypeId} {B b : Nat} {p : Value} {bs : List Value} {w w' : World} (h : Lib.BuilderAt T e B b p bs w) (hb : Below w.heap.size w w') : Lib.BuilderAt T e B b p bs w' := by
 obtain ⟨h1, v, h2, ⟨h3, h4⟩, h5⟩ := h
 refine ⟨h1, v, (hb.block b (Array.getElem?_eq_some_iff.1 h2).1).trans h2, ⟨h3, ?_⟩, h5⟩
 rcases h4 with h4 | ⟨g, cap, cur, q1, q2, q3, q4⟩
 ·exact .inl h4
 ·exact .inr ⟨g, cap, cur, q1, q2, (hb.block g (Array.getElem?_eq_some_iff.1 q3).1).trans q3, q4⟩
theorem Bd.grow {B b : Nat} {l : List UInt8} {w w' : World} (h : Bd B b l w) (hb : Below w.heap.size w w') : Bd B b l w' := by
 rcases h with h | h
 ·exact .inl (builderAt_grow h hb)
 ·exact .inr (builderAt_grow h hb)
theorem Bd.new (w : World) : Bd w.heap.size w.heap.size [] (w.alloc (.cells #[.pointer none, .slice none 0 0] 136)) :=
 .inl ⟨Nat.le_refl _, _, heap_alloc_new w _, ⟨rfl, .inl ⟨rfl, rfl⟩⟩, by simp [Value.ownBlock]⟩
theorem writeB (B b : Nat) (l : List UInt8) (s : ByteArray) (w : World) (h : Bd B b l w) (hlen : l.length + s.size ≤ 140737488355328) (hBw : B ≤ w.heap.size) :
 Calls Tryz.prog 84 #[.pointer (some ⟨b, 0, none⟩), .string s] w fun e w' => e = .returned (.tuple #[.int .i64 s.size, .nilIface]) ∧ Bd B b (l ++ s.data.toList) w' ∧ Below B w w' :=
 (writeString_c B b _ s w h (by simpa [Lib.byteCells] using hlen) hBw).mono fun e w' ⟨h1, h2, h3⟩ => ⟨h1, .inr (by simpa [Lib.byteCells, Lib.strCells] using h2), h3⟩
theorem stringB (B b : Nat) (l : List UInt8) (w : World) (h : Bd B b l w) (hBw : B ≤ w.heap.size) :
 Calls Tryz.prog 73 #[.pointer (some ⟨b, 0, none⟩)] w fun e w' => e = .returned (.string ⟨l.toArray⟩) ∧ Below B w w' :=
 (Tryz.Builder_String_any B b l w h (by omega)).mono fun e w' h => ⟨h.1, h.2⟩
theorem uriIP_bo (w : World) : Calls Tryz.prog 78 #[.string ⟨#[98, 46, 111, 114, 103]⟩] w fun e w' => e = .returned (.string ⟨#[98, 46, 111, 114, 103]⟩) ∧ Below w.heap.size w w' := by
 go_enter func78, ntmps78
 have hs0 := Below.refl w.heap.size w
 go_upto_region 0 with fail
 refine pS [_] ?_
 go_upto_region 1 with fail
 refine pR [_] ?_
 refine cD func88 (isIPV6_bo w) ?_
 rintro e w1 ⟨rfl, hb1⟩
 refine cR ?_
 obtain ⟨hS1, hz1, hy1⟩ := zC hs0 hb1
 refine wN ?_
 go_upto_region 3 with fail
 refine pS [_, _] ?_
 go_wp2
 go_ret
 exact ⟨rfl, hS1⟩
theorem length_nil (A : Option Addr) (c : Nat) (w : World) : Calls Tryz.prog 80 #[.slice A 0 c] w fun e w' => e = .returned (.int .i64 0) ∧ w = w' := by
 go_enter func80, ntmps80
 go_wp2
 go_ret
 exact ⟨rfl, rfl⟩
theorem itoa_5070 : itoaS 5070 = ⟨#[53, 48, 55, 48]⟩ := by kernel_rfl
def knownB : List UInt8 := [115, 105, 112, 58, 98, 111, 98, 64, 98, 46, 111, 114, 103, 58, 53, 48, 55, 48]
theorem uriWrite_known (w0 : World) (hE : Env w0) (B b xb : Nat) (A8 A9 : Option Addr) (c8 c9 : Nat) (w : World) (hw : Below w0.heap.size w0 w) (hB0 : w0.heap.size ≤ B) (hBw : B ≤ w.heap.size) (hxB : xb < B) (hbd : Bd B b [] w)
 (hx : Blk w xb #[.string ⟨#[115, 105, 112]⟩, .string ⟨#[]⟩, .bool false, .bool false, .string ⟨#[98, 111, 98]⟩, .string ⟨#[]⟩, .string ⟨#[98, 46, 111, 114, 103]⟩, .int .i64 5070, .slice A8 0 c8, .slice A9 0 c9] 74) :
 Calls Tryz.prog 72 #[.pointer (some ⟨xb, 0, none⟩), .iface 134 (.pointer (some ⟨b, 0, none⟩))] w fun e w' => e = .returned (.tuple #[]) ∧ Bd B b knownB w' ∧ Below B w w' := by
 have HC : Hid (∀ wr, Below B w wr → wr.cell? ⟨xb, 0, none⟩ = some (.string ⟨#[115, 105, 112]⟩) ∧ wr.cell? ⟨xb, 1, none⟩ = some (.string ⟨#[]⟩) ∧ wr.cell? ⟨xb, 3, none⟩ = some (.bool false) ∧ wr.cell? ⟨xb, 4, none⟩ = some (.string ⟨#[98, 111, 98]⟩) ∧ wr.cell? ⟨xb, 5, none⟩ = some (.string ⟨#[]⟩) ∧ wr.cell? ⟨xb, 6, none⟩ = some (.string ⟨#[98, 46, 111, 114, 103]⟩) ∧ wr.cell? ⟨xb, 7, none⟩ = some (.int .i64 5070) ∧ wr.cell? ⟨xb, 8, none⟩ = some (.slice A8 0 c8) ∧ wr.cell? ⟨xb, 9, none⟩ = some (.slice A9 0 c9)) := fun wr hr => by
  have h2 : Blk wr xb _ _ := (hr.block xb hxB).trans hx
  exact ⟨h2.cell 0 _ rfl, h2.cell 1 _ rfl, h2.cell 3 _ rfl, h2.cell 4 _ rfl, h2.cell 5 _ rfl, h2.cell 6 _ rfl, h2.cell 7 _ rfl, h2.cell 8 _ rfl, h2.cell 9 _ rfl⟩
 have HI : Hid (∀ wr, Below B w wr → Calls Tryz.prog 79 #[.int .i64 5070] wr fun e w' => e = .returned (.string ⟨#[53, 48, 55, 48]⟩) ∧ Below wr.heap.size wr w') := fun wr hr =>
  itoa_5070 ▸ hE.itoa 5070 wr (hw.trans (hr.mono hB0)) (by decide) (by decide)
 clear hx hw hB0 hxB hE
 have hs0 := Below.refl B w
 go_enter func72, ntmps72
 go_upto_region 0 with fail
 refine pR [_, .pointer (some ⟨xb, 0, none⟩), .pointer (some ⟨xb, 0, none⟩)] ?_
 refine Wl.ld (v := .string ⟨#[115, 105, 112]⟩) ((HC.out _ hs0).1) underlying9 ?_
 refine pQ [_] ?_
 go_upto_region 1 with fail
 refine pR [_, .pointer (some ⟨xb, 0, none⟩), .pointer (some ⟨xb, 0, none⟩)] ?_
 refine Wl.ld (v := .string ⟨#[115, 105, 112]⟩) ((HC.out _ hs0).1) underlying9 ?_
 refine pQ [.bool false] ?_
 go_upto_region 3 with fail
 refine pR [_, _] ?_
 refine Wl.step (fun K hK => ?_)
 refine step_enter rfl 84 #[.pointer (some ⟨b, 0, none⟩), .string ⟨#[115, 105, 112]⟩] (by kernel_rfl) (writeB B b [] ⟨#[115, 105, 112]⟩ _ hbd (by decide) (Nat.le_trans hBw hs0.size)) ?_
 rintro e w1 ⟨rfl, hbd', hb1⟩
 refine ⟨_, rfl, ?_⟩
 have hS1 : Below B w w1 := hs0.trans hb1
 clear hbd hb1
 have hbd := hbd'
 clear hbd'
 refine hK _ _ ?_
 clear hK K
 (try simp only [Act.put, zD, zE, zF])
 refine wN ?_
 go_upto_region 4 with fail
 refine pR [_] ?_
 refine Wl.step (fun K hK => ?_)
 refine step_enter rfl 84 #[.pointer (some ⟨b, 0, none⟩), .string ⟨#[58]⟩] (by kernel_rfl) (writeB B b [115, 105, 112] ⟨#[58]⟩ _ hbd (by decide) (Nat.le_trans hBw hS1.size)) ?_
 rintro e w2 ⟨rfl, hbd', hb2⟩
 refine ⟨_, rfl, ?_⟩
 have hS2 : Below B w w2 := hS1.trans hb2
 clear hbd hb2
 have hbd := hbd'
 clear hbd'
 refine hK _ _ ?_
 clear hK K
 (try simp only [Act.put, zD, zE, zF])
 refine wN ?_
 go_upto_region 5 with fail
 refine pR [_, .pointer (some ⟨xb, 0, none⟩), .pointer (some ⟨xb, 1, none⟩)] ?_
 refine Wl.ld (v := .string ⟨#[]⟩) ((HC.out _ hS2).2.1) underlying9 ?_
 refine pQ [.bool false] ?_
 go_upto_region 7 with fail
 refine pR [_, .pointer (some ⟨xb, 0, none⟩), .pointer (some ⟨xb, 3, none⟩)] ?_
 refine Wl.ld (v := .bool false) ((HC.out _ hS2).2.2.1) underlying4 ?_
 refine wN ?_
 go_upto_region 9 with fail
 refine pR [_, .pointer (some ⟨xb, 0, none⟩), .pointer (some ⟨xb, 4, none⟩)] ?_
 refine Wl.ld (v := .string ⟨#[98, 111, 98]⟩) ((HC.out _ hS2).2.2.2.1) underlying9 ?_
 refine pQ [.bool true] ?_
 go_upto_region 10 with fail
 refine wp_region_noPanic ?_
 have hSd10 := hS2.drew
 have hzd10 := hSd10.size
 have hze10 : (w2).drew.heap.size = (w2).heap.size := rfl
 refine wp_region_held_drew (S := fun w' => Below (B) w w') (by kernel_rfl) hSd10 (fun _ => ?_)
 replace hbd := hbd.grow (below_drew1 _)
 refine tk 0 (.iface 134 (.pointer (some ⟨b, 0, none⟩))) rfl yR hSd10 ?_
 refine tk 1 (.pointer (some ⟨xb, 0, none⟩)) rfl yR hSd10 ?_
 refine tk 2 (.pointer (some ⟨xb, 0, none⟩)) rfl yR hSd10 ?_
 refine tk 3 (.pointer (some ⟨xb, 4, none⟩)) rfl yR hSd10 ?_
 refine tk 4 (.string ⟨#[98, 111, 98]⟩) rfl (yL underlying9 (fun w h => (HC.out w h).2.2.2.1)) hSd10 ?_
 refine tk 5 (.func (.method "WriteString") #[.iface 134 (.pointer (some ⟨b, 0, none⟩))] #[]) rfl yR hSd10 ?_
 refine tk 6 (.func (.method "WriteString") #[.iface 134 (.pointer (some ⟨b, 0, none⟩))] #[]) rfl yR hSd10 ?_
 refine tk 7 (.iface 134 (.pointer (some ⟨b, 0, none⟩))) rfl yR hSd10 ?_
 refine rd 8 rfl (fun K hK => ?_)
 refine step_enter rfl 84 #[.pointer (some ⟨b, 0, none⟩), .string ⟨#[98, 111, 98]⟩] (by kernel_rfl) (writeB B b [115, 105, 112, 58] ⟨#[98, 111, 98]⟩ _ hbd (by decide) (Nat.le_trans hBw hSd10.size)) ?_
 rintro e w3 ⟨rfl, hbd', hb3⟩
 refine ⟨_, rfl, ?_⟩
 have hS3 : Below B w w3 := hSd10.trans hb3
 clear hbd hb3
 have hbd := hbd'
 clear hbd'
 refine sh hK hS3 ?_
 clear hK K
 refine wpAnyH_done (by kernel_rfl) ?_ _
 refine NoPanic.normal ?_
 go_upto_region 11 with fail
 refine pR [_, .pointer (some ⟨xb, 0, none⟩), .pointer (some ⟨xb, 5, none⟩)] ?_
 refine Wl.ld (v := .string ⟨#[]⟩) ((HC.out _ hS3).2.2.2.2.1) underlying9 ?_
 refine pQ [.bool false] ?_
 go_upto_region 14 with fail
 refine pR [_] ?_
 refine Wl.step (fun K hK => ?_)
 refine step_enter rfl 84 #[.pointer (some ⟨b, 0, none⟩), .string ⟨#[64]⟩] (by kernel_rfl) (writeB B b [115, 105, 112, 58, 98, 111, 98] ⟨#[64]⟩ _ hbd (by decide) (Nat.le_trans hBw hS3.size)) ?_
 rintro e w4 ⟨rfl, hbd', hb4⟩
 refine ⟨_, rfl, ?_⟩
 have hS4 : Below B w w4 := hS3.trans hb4
 clear hbd hb4
 have hbd := hbd'
 clear hbd'
 refine hK _ _ ?_
 clear hK K
 (try simp only [Act.put, zD, zE, zF])
 refine wN ?_
 go_upto_region 15 with fail
 refine wp_region_noPanic ?_
 have hSd15 := hS4.drew
 have hzd15 := hSd15.size
 have hze15 : (w4).drew.heap.size = (w4).heap.size := rfl
 refine wp_region_held_drew (S := fun w' => Below (B) w w') (by kernel_rfl) hSd15 (fun _ => ?_)
 replace hbd := hbd.grow (below_drew1 _)
 refine tk 0 (.iface 134 (.pointer (some ⟨b, 0, none⟩))) rfl yR hSd15 ?_
 refine tk 1 (.pointer (some ⟨xb, 0, none⟩)) rfl yR hSd15 ?_
 refine tk 2 (.pointer (some ⟨xb, 0, none⟩)) rfl yR hSd15 ?_
 refine tk 3 (.pointer (some ⟨xb, 6, none⟩)) rfl yR hSd15 ?_
 refine tk 4 (.string ⟨#[98, 46, 111, 114, 103]⟩) rfl (yL underlying9 (fun w h => (HC.out w h).2.2.2.2.2.1)) hSd15 ?_
 refine tk 6 (.func (.method "WriteString") #[.iface 134 (.pointer (some ⟨b, 0, none⟩))] #[]) rfl yR hSd15 ?_
 refine tk 7 (.func (.method "WriteString") #[.iface 134 (.pointer (some ⟨b, 0, none⟩))] #[]) rfl yR hSd15 ?_
 refine tk 8 (.iface 134 (.pointer (some ⟨b, 0, none⟩))) rfl yR hSd15 ?_
 refine rd 5 rfl (fun K hK => ?_)
 refine sC func78 #[.string ⟨#[98, 46, 111, 114, 103]⟩] (uriIP_bo w4.drew) ?_
 rintro e w5 ⟨rfl, hb5⟩
 refine ⟨_, rfl, ?_⟩
 obtain ⟨hS5, hz5, hy5⟩ := zC hSd15 hb5
 replace hbd := hbd.grow hb5
 refine sh hK hS5 ?_
 clear hK K
 refine rd 9 rfl (fun K hK => ?_)
 refine step_enter rfl 84 #[.pointer (some ⟨b, 0, none⟩), .string ⟨#[98, 46, 111, 114, 103]⟩] (by kernel_rfl) (writeB B b [115, 105, 112, 58, 98, 111, 98, 64] ⟨#[98, 46, 111, 114, 103]⟩ _ hbd (by decide) (Nat.le_trans hBw hS5.size)) ?_
 rintro e w6 ⟨rfl, hbd', hb6⟩
 refine ⟨_, rfl, ?_⟩
 have hS6 : Below B w w6 := hS5.trans hb6
 clear hbd hb6
 have hbd := hbd'
 clear hbd'
 refine sh hK hS6 ?_
 clear hK K
 refine wpAnyH_done (by kernel_rfl) ?_ _
 refine NoPanic.normal ?_
 go_upto_region 16 with fail
 refine pR [_, .pointer (some ⟨xb, 0, none⟩), .pointer (some ⟨xb, 7, none⟩)] ?_
 refine Wl.ld (v := .int .i64 5070) ((HC.out _ hS6).2.2.2.2.2.2.1) underlying3 ?_
 refine pQ [.bool true] ?_
 go_upto_region 17 with fail
 refine pR [_] ?_
 refine Wl.step (fun K hK => ?_)
 refine step_enter rfl 84 #[.pointer (some ⟨b, 0, none⟩), .string ⟨#[58]⟩] (by kernel_rfl) (writeB B b [115, 105, 112, 58, 98, 111, 98, 64, 98, 46, 111, 114, 103] ⟨#[58]⟩ _ hbd (by decide) (Nat.le_trans hBw hS6.size)) ?_
 rintro e w7 ⟨rfl, hbd', hb7⟩
 refine ⟨_, rfl, ?_⟩
 have hS7 : Below B w w7 := hS6.trans hb7
 clear hbd hb7
 have hbd := hbd'
 clear hbd'
 refine hK _ _ ?_
 clear hK K
 (try simp only [Act.put, zD, zE, zF])
 refine wN ?_
 go_upto_region 18 with fail
 refine wp_region_noPanic ?_
 have hSd18 := hS7.drew
 have hzd18 := hSd18.size
 have hze18 : (w7).drew.heap.size = (w7).heap.size := rfl
 refine wp_region_held_drew (S := fun w' => Below (B) w w') (by kernel_rfl) hSd18 (fun _ => ?_)
 replace hbd := hbd.grow (below_drew1 _)
 refine tk 0 (.iface 134 (.pointer (some ⟨b, 0, none⟩))) rfl yR hSd18 ?_
 refine tk 1 (.pointer (some ⟨xb, 0, none⟩)) rfl yR hSd18 ?_
 refine tk 2 (.pointer (some ⟨xb, 0, none⟩)) rfl yR hSd18 ?_
 refine tk 3 (.pointer (some ⟨xb, 7, none⟩)) rfl yR hSd18 ?_
 refine tk 4 (.int .i64 5070) rfl (yL underlying3 (fun w h => (HC.out w h).2.2.2.2.2.2.1)) hSd18 ?_
 refine tk 6 (.func (.method "WriteString") #[.iface 134 (.pointer (some ⟨b, 0, none⟩))] #[]) rfl yR hSd18 ?_
 refine tk 7 (.func (.method "WriteString") #[.iface 134 (.pointer (some ⟨b, 0, none⟩))] #[]) rfl yR hSd18 ?_
 refine tk 8 (.iface 134 (.pointer (some ⟨b, 0, none⟩))) rfl yR hSd18 ?_
 refine rd 5 rfl (fun K hK => ?_)
 refine sC func79 #[.int .i64 5070] (HI.out w7.drew hSd18) ?_
 rintro e w8 ⟨rfl, hb8⟩
 refine ⟨_, rfl, ?_⟩
 obtain ⟨hS8, hz8, hy8⟩ := zC hSd18 hb8
 replace hbd := hbd.grow hb8
 refine sh hK hS8 ?_
 clear hK K
 refine rd 9 rfl (fun K hK => ?_)
 refine step_enter rfl 84 #[.pointer (some ⟨b, 0, none⟩), .string ⟨#[53, 48, 55, 48]⟩] (by kernel_rfl) (writeB B b [115, 105, 112, 58, 98, 111, 98, 64, 98, 46, 111, 114, 103, 58] ⟨#[53, 48, 55, 48]⟩ _ hbd (by decide) (Nat.le_trans hBw hS8.size)) ?_
 rintro e w9 ⟨rfl, hbd', hb9⟩
 refine ⟨_, rfl, ?_⟩
 have hS9 : Below B w w9 := hS8.trans hb9
 clear hbd hb9
 have hbd := hbd'
 clear hbd'
 refine sh hK hS9 ?_
 clear hK K
 refine wpAnyH_done (by kernel_rfl) ?_ _
 refine NoPanic.normal ?_
 have hbk : Bd B b knownB w9 := hbd
 clear hbd
 have hbd := hbk
 clear hbk
 rcases A8 with _ | a8
 ·skip
  go_upto_region 19 with fail
  refine pR [_, .pointer (some ⟨xb, 0, none⟩), .pointer (some ⟨xb, 8, none⟩)] ?_
  refine Wl.ld (v := .slice none 0 c8) ((HC.out _ hS9).2.2.2.2.2.2.2.1) underlying72 ?_
  refine pP [.bool false, _] ?_
  refine Wl.u ?_
  refine Wl.u ?_
  refine Wl.u ?_
  refine Wl.u ?_
  refine Wl.u ?_
  refine Wl.u ?_
  refine pQ [.bool false] ?_
  rcases A9 with _ | a9
  ·skip
   go_upto_region 22 with fail
   refine pR [_, .pointer (some ⟨xb, 0, none⟩), .pointer (some ⟨xb, 9, none⟩)] ?_
   refine Wl.ld (v := .slice none 0 c9) ((HC.out _ hS9).2.2.2.2.2.2.2.2) underlying72 ?_
   refine pP [.bool false, _] ?_
   refine Wl.u ?_
   refine Wl.u ?_
   refine Wl.u ?_
   refine Wl.u ?_
   refine Wl.u ?_
   refine Wl.u ?_
   refine pQ [.bool false] ?_
   go_wp2
   go_end0
   exact ⟨rfl, hbd, hS9⟩
  ·skip
   go_upto_region 22 with fail
   refine pR [_, .pointer (some ⟨xb, 0, none⟩), .pointer (some ⟨xb, 9, none⟩)] ?_
   refine Wl.ld (v := .slice (some a9) 0 c9) ((HC.out _ hS9).2.2.2.2.2.2.2.2) underlying72 ?_
   refine pP [.bool true, _, _, .pointer (some ⟨xb, 0, none⟩), .pointer (some ⟨xb, 9, none⟩)] ?_
   refine Wl.ld (v := .slice (some a9) 0 c9) ((HC.out _ hS9).2.2.2.2.2.2.2.2) underlying72 ?_
   refine Wl.step (fun K hK => ?_)
   refine sW func80 #[.slice (some a9) 0 c9] (length_nil _ _ w9) ?_
   rintro e w51 ⟨rfl, hw0⟩
   refine ⟨_, rfl, ?_⟩
   have hS51 := hS9
   rw [hw0] at hS51 hbd
   clear hw0
   refine hK _ _ ?_
   clear hK K
   (try simp only [Act.put, zD, zE, zF])
   refine pQ [.bool false, .bool false] ?_
   go_wp2
   go_end0
   exact ⟨rfl, hbd, hS51⟩
 ·skip
  go_upto_region 19 with fail
  refine pR [_, .pointer (some ⟨xb, 0, none⟩), .pointer (some ⟨xb, 8, none⟩)] ?_
  refine Wl.ld (v := .slice (some a8) 0 c8) ((HC.out _ hS9).2.2.2.2.2.2.2.1) underlying72 ?_
  refine pP [.bool true, _, _, .pointer (some ⟨xb, 0, none⟩), .pointer (some ⟨xb, 8, none⟩)] ?_
  refine Wl.ld (v := .slice (some a8) 0 c8) ((HC.out _ hS9).2.2.2.2.2.2.2.1) underlying72 ?_
  refine Wl.step (fun K hK => ?_)
  refine sW func80 #[.slice (some a8) 0 c8] (length_nil _ _ w9) ?_
  rintro e w41 ⟨rfl, hw0⟩
  refine ⟨_, rfl, ?_⟩
  have hS41 := hS9
  rw [hw0] at hS41 hbd
  clear hw0
  refine hK _ _ ?_
  clear hK K
  (try simp only [Act.put, zD, zE, zF])
  refine pQ [.bool false, .bool false] ?_
  rcases A9 with _ | a9
  ·skip
   go_upto_region 22 with fail
   refine pR [_, .pointer (some ⟨xb, 0, none⟩), .pointer (some ⟨xb, 9, none⟩)] ?_
   refine Wl.ld (v := .slice none 0 c9) ((HC.out _ hS41).2.2.2.2.2.2.2.2) underlying72 ?_
   refine pP [.bool false, _] ?_
   refine Wl.u ?_
   refine Wl.u ?_
   refine Wl.u ?_
   refine Wl.u ?_
   refine Wl.u ?_
   refine Wl.u ?_
   refine pQ [.bool false] ?_
   go_wp2
   go_end0
   exact ⟨rfl, hbd, hS41⟩
  ·skip
   go_upto_region 22 with fail
   refine pR [_, .pointer (some ⟨xb, 0, none⟩), .pointer (some ⟨xb, 9, none⟩)] ?_
   refine Wl.ld (v := .slice (some a9) 0 c9) ((HC.out _ hS41).2.2.2.2.2.2.2.2) underlying72 ?_
   refine pP [.bool true, _, _, .pointer (some ⟨xb, 0, none⟩), .pointer (some ⟨xb, 9, none⟩)] ?_
   refine Wl.ld (v := .slice (some a9) 0 c9) ((HC.out _ hS41).2.2.2.2.2.2.2.2) underlying72 ?_
   refine Wl.step (fun K hK => ?_)
   refine sW func80 #[.slice (some a9) 0 c9] (length_nil _ _ w41) ?_
   rintro e w51 ⟨rfl, hw0⟩
   refine ⟨_, rfl, ?_⟩
   have hS51 := hS41
   rw [hw0] at hS51 hbd
   clear hw0
   refine hK _ _ ?_
   clear hK K
   (try simp only [Act.put, zD, zE, zF])
   refine pQ [.bool false, .bool false] ?_
   go_wp2
   go_end0
   exact ⟨rfl, hbd, hS51⟩
def kCells (v8 v9 : Value) : Array Value := #[.string ⟨#[115, 105, 112]⟩, .string ⟨#[]⟩, .bool false, .bool false, .string ⟨#[98, 111, 98]⟩, .string ⟨#[]⟩, .string ⟨#[98, 46, 111, 114, 103]⟩, .int .i64 5070, v8, v9]
theorem uriString_known (w0 : World) (hE : Env w0) (xb : Nat) (A8 A9 : Option Addr) (c8 c9 : Nat) (w : World) (hw : Below w0.heap.size w0 w) (hx : Blk w xb (kCells (.slice A8 0 c8) (.slice A9 0 c9)) 74) :
 Calls Tryz.prog 52 #[.pointer (some ⟨xb, 0, none⟩)] w fun e w' => e = .returned (.string ⟨knownB.toArray⟩) ∧ Below w.heap.size w w' := by
 have hxl := hx.lt
 go_enter func52, ntmps52
 have hs0 := Below.refl w.heap.size w
 go_upto_region 2 with fail
 have hbd := Bd.new w
 have hB1 := below_alloc1 w (.cells #[.pointer none, .slice none 0 0] 136)
 have hx1 := hx.grow hB1
 obtain ⟨w1, hw1⟩ : ∃ W, W = w.alloc (.cells #[.pointer none, .slice none 0 0] 136) := ⟨_, rfl⟩
 rw [← hw1] at hbd hB1 hx1 ⊢
 clear hw1 hx
 have hE1 := hw.trans (hB1.mono hw.size)
 go_upto_region 2 with fail
 refine pR [_, .iface 134 (.pointer (some ⟨w.heap.size, 0, none⟩))] ?_
 refine cC func72 #[.pointer (some ⟨xb, 0, none⟩), .iface 134 (.pointer (some ⟨w.heap.size, 0, none⟩))] (uriWrite_known w0 hE w.heap.size w.heap.size xb A8 A9 c8 c9 _ hE1 hw.size hB1.size hxl hbd hx1) ?_
 rintro e w2 ⟨rfl, hbd', hb2⟩
 refine cR ?_
 have hS2 : Below w.heap.size w w2 := hB1.trans hb2
 clear hbd hx1 hE1 hb2
 have hbd := hbd'
 clear hbd'
 refine wN ?_
 go_upto_region 3 with fail
 apply wR
 refine cC func73 #[.pointer (some ⟨w.heap.size, 0, none⟩)] (stringB w.heap.size w.heap.size knownB _ hbd (by have := hS2.size; omega)) ?_
 rintro e w3 ⟨rfl, hb3⟩
 refine cR ?_
 have hS3 : Below w.heap.size w w3 := hS2.trans hb3
 clear hb3
 refine pQ [_] ?_
 go_wp2
 go_ret
 exact ⟨rfl, hS3⟩
def knownSU : SU := { (default : SU) with scheme := ⟨#[115, 105, 112]⟩, user := ⟨#[98, 111, 98]⟩, host := ⟨#[98, 46, 111, 114, 103]⟩, port := 5070 }
theorem parse_known : parseF (default : SU) ⟨#[115, 105, 112, 58, 98, 111, 98, 64, 98, 46, 111, 114, 103, 58, 53, 48, 55, 48]⟩ = some knownSU := by kernel_rfl
def knownUr : Ur := plainUr knownSU
def UrL (B : Nat) (w : World) (cs : Array Value) (u : Ur) : Prop := B ≤ w.heap.size ∧ ∀ w2, Below B w w2 → UrR w2 cs u
theorem UrL.of {w : World} {cs : Array Value} {u : Ur} (h : UrR w cs u) : UrL w.heap.size w cs u := ⟨Nat.le_refl _, fun _ hb => h.grow hb⟩
theorem UrL.ur {B : Nat} {w : World} {cs : Array Value} {u : Ur} (h : UrL B w cs u) : UrR w cs u := h.2 _ (Below.refl _ _)
theorem UrL.grow {B : Nat} {w w' : World} {cs : Array Value} {u : Ur} (h : UrL B w cs u) (hb : Below w.heap.size w w') : UrL B w' cs u := ⟨Nat.le_trans h.1 hb.size, fun w2 h2 => h.2 w2 ((hb.mono h.1).trans h2)⟩
theorem UrL.sto {B g : Nat} {w w' : World} {cs : Array Value} {u : Ur} (h : UrL B w cs u) (ho : Oth g w w') (hg : B ≤ g := by omega) : UrL B w' cs u := ⟨by rw [ho.size]; exact h.1, fun w2 h2 => h.2 w2 ((ho.below hg).trans h2)⟩
def BsA (B : Nat) (w : World) (v : Value) (l : List UInt8) : Prop := ∀ w2, Agr B w w2 → Bs w2 v l
theorem BsA.grow {B : Nat} {w w' : World} {v : Value} {l : List UInt8} (h : BsA B w v l) (hb : Below w.heap.size w w') : BsA B w' v l := fun w2 h2 => h w2 (Agr.of hb h2)
theorem BsA.sto {B g : Nat} {w w' : World} {v : Value} {l : List UInt8} (h : BsA B w v l) (ho : Oth g w w') (hg : g < B := by omega) : BsA B w' v l := fun w2 h2 => h w2 (Agr.trans ⟨by rw [ho.size]; exact Nat.le_refl _, fun k hk _ => ho.block k (by omega)⟩ h2)
theorem bs_row {w : World} {b : Nat} {T : TypeId} {fr : Nat × Nat} (l : By) {C : Array Value} (hC : C = bcells l) (h : w.heap[b]? = some (.cells C T fr)) (hm : l.length ≤ 1000) : Bs w (.slice (some ⟨b, 0, none⟩) l.length l.length) l := by
 subst hC
 refine ⟨_, l.length, rfl, Nat.le_refl _, by omega, fun _ => ⟨b, 0, rfl, (Array.getElem?_eq_some_iff.1 h).1, fun i hi => ?_⟩⟩
 rw [Nat.zero_add, cell_of_row _ _ _ _ T fr h, ga_get _ _ hi]
 simp [bcells, hi]
theorem bsA_row {w : World} {b B : Nat} {T : TypeId} {fr : Nat × Nat} (l : By) {C : Array Value} (hC : C = bcells l) (h : w.heap[b]? = some (.cells C T fr)) (hm : l.length ≤ 1000) (hB : B ≤ b) : BsA B w (.slice (some ⟨b, 0, none⟩) l.length l.length) l := fun _ h2 => bs_row l hC ((h2.2 b hB (Array.getElem?_eq_some_iff.1 h).1).trans h) hm
theorem uriK_c (w : World) : Calls Tryz.prog 22 #[.string ⟨#[98, 111, 98]⟩, .string ⟨#[98, 46, 111, 114, 103]⟩, .int .i64 5070] w fun e w' => ∃ cs, e = .returned (.agg cs) ∧ UrR w' cs knownUr ∧ Below w.heap.size w w' := by
 go_enter func22, ntmps22
 have hs0 := Below.refl w.heap.size w
 have z1 : (⟨#[98, 111, 98]⟩ : ByteArray).size ≤ 4611686018427387904 := by decide
 have z2 : (⟨#[98, 46, 111, 114, 103]⟩ : ByteArray).size ≤ 4611686018427387904 := by decide
 go_upto_region 0 with fail
 apply wR
 refine cN #[.slice none 0 0, .slice none 0 0, .bool false, .bool false, .slice none 0 0, .slice none 0 0, .slice none 0 0, .int .i64 0, .slice none 0 0, .slice none 0 0] 25 ?_
 intro ba w1 ba_ge ba_lt hba hb1
 obtain ⟨hS1, hz1, hy1⟩ := zC hs0 hb1
 refine wP ?_
 refine wN ?_
 go_upto_region 1 with fail
 apply wR
 refine Wl.step (fun K hK => ?_)
 refine step_new rfl (fun b => .slice (some ⟨b, 0, none⟩) 3 3) (#[.int .u8 115, .int .u8 105, .int .u8 112]) 5 (by kernel_rfl) ?_
 intro b7 w2 b7_ge b7_lt hb7 hb2
 obtain ⟨hS2, hz2, hy2⟩ := zC hS1 hb2
 replace hba := hba.grow hb2
 refine hK _ _ ?_
 clear hK K
 (try simp only [Act.put, zD, zE, zF])
 refine Wl.step (fun K hK => ?_)
 refine step_const rfl 22 5 _ rfl b7 3 3 _ (by kernel_rfl) underlying22 underlying5 hb7 ?_
 intro w3 hO8 h8
 replace hba := hba.oth hO8 (by omega)
 have hS3 : Below w.heap.size w w3 := hS2.trans (hO8.below (by omega))
 have q8 : BsA (ba + 1) w3 (.slice (some ⟨b7, 0, none⟩) 3 3) [115, 105, 112] := bsA_row [115, 105, 112] rfl h8 (by decide) (by omega)
 clear hb7
 have hz8 := hO8.size
 clear hO8
 clear h8
 refine hK _ _ ?_
 clear hK K
 (try simp only [Act.put, zD, zE, zF])
 refine pP [_] ?_
 refine Wl.step (fun K hK => ?_)
 refine st_conv_off 9 22 5 rfl (s := ⟨#[98, 111, 98]⟩) (by kernel_rfl) z1 underlying9 underlying22 underlying5 (ba + 1) (by omega) ?_
 intro v10 w4 q10 hb4
 obtain ⟨a10, n10, e10⟩ := (q10 _ (Agr.refl _ _)).shape
 replace e10 : v10 = .slice a10 3 n10 := e10
 subst e10
 replace q10 : BsA (ba + 1) w4 (.slice a10 3 n10) [98, 111, 98] := q10
 obtain ⟨hS4, hz4, hy4⟩ := zC hS3 hb4
 replace q8 := q8.grow hb4
 replace hba := hba.grow hb4
 refine hK _ _ ?_
 clear hK K
 (try simp only [Act.put, zD, zE, zF])
 refine pP [_] ?_
 refine Wl.step (fun K hK => ?_)
 refine st_conv_off 9 22 5 rfl (s := ⟨#[98, 46, 111, 114, 103]⟩) (by kernel_rfl) z2 underlying9 underlying22 underlying5 (ba + 1) (by omega) ?_
 intro v12 w5 q12 hb5
 obtain ⟨a12, n12, e12⟩ := (q12 _ (Agr.refl _ _)).shape
 replace e12 : v12 = .slice a12 5 n12 := e12
 subst e12
 replace q12 : BsA (ba + 1) w5 (.slice a12 5 n12) [98, 46, 111, 114, 103] := q12
 obtain ⟨hS5, hz5, hy5⟩ := zC hS4 hb5
 replace q8 := q8.grow hb5
 replace q10 := q10.grow hb5
 replace hba := hba.grow hb5
 refine hK _ _ ?_
 clear hK K
 (try simp only [Act.put, zD, zE, zF])
 refine pP [_, .agg #[.slice (some ⟨b7, 0, none⟩) 3 3, .slice none 0 0, .bool false, .bool false, .slice a10 3 n10, .slice none 0 0, .slice a12 5 n12, .int .i64 5070, .slice none 0 0, .slice none 0 0]] ?_
 refine cB 25 ba 0 [.slice (some ⟨b7, 0, none⟩) 3 3, .slice none 0 0, .bool false, .bool false, .slice a10 3 n10, .slice none 0 0, .slice a12 5 n12, .int .i64 5070, .slice none 0 0, .slice none 0 0] 25 hba ?_
 intro w6 hba' hO6
 replace q8 := q8.sto hO6
 replace q10 := q10.sto hO6
 replace q12 := q12.sto hO6
 have hS6 := hS5.trans (hO6.below (by omega))
 have hz6 := hS6.size
 clear hba
 have hba := hba'
 clear hba'
 have hzz6 := hO6.size
 replace hO6 := Lib.hid hO6
 refine wN ?_
 go_wp2
 refine bodyPost_ret (results_cell_row rfl _ _ _ _ _ _ _ rfl hba underlying25 rfl (by kernel_rfl)) rfl ⟨_, rfl, ?_, hS6⟩
 exact UrR.mk10 (u := knownUr) (q8 _ (Agr.refl _ _)) (bs_nil _) (q10 _ (Agr.refl _ _)) (bs_nil _) (q12 _ (Agr.refl _ _)) (kvs_nil _) (kvs_nil _) (by decide) (by decide)
theorem parse_knownB : parseF (default : SU) (mk knownB) = some knownSU := parse_known
theorem pout_known {b o : Nat} {L R : List Value} {T : TypeId} {w w' : World} {e : Ending} (h : POut b o L R T w (parseF (default : SU) (mk knownB)) e w') : e = .returned .nilIface ∧ UAt w' b o L R T knownSU ∧ Stp w.heap.size b w w' := by
 rw [parse_knownB] at h
 obtain ⟨h1, u', h2, ⟨h3, h4⟩ | ⟨h3, _⟩⟩ := h
 ·obtain rfl := Option.some.inj h3
  exact ⟨h4, h2, h1⟩
 ·cases h3
theorem hps_any {w w' : World} {A : Option Addr} {c : Nat} (h : HPs w (.slice A 0 c) []) : HPs w' (.slice A 0 c) [] := by
 obtain ⟨A', c', e, h1, h2, h3⟩ := h
 exact ⟨A', c', e, h1, h2, fun q => absurd q (by simp)⟩
theorem parseUriK_c (w0 : World) (hE : Env w0) (v : Value) (w : World) (hw : Below w0.heap.size w0 w) (h : Bs w v knownB) : Calls Tryz.prog 23 #[v] w fun e w' => ∃ cs, e = .returned (.tuple #[.agg cs, .bool true]) ∧ UrR w' cs knownUr ∧ Below w.heap.size w w' := by
 obtain ⟨A, c, rfl⟩ := h.shape
 have HB := Lib.hid h
 clear h
 have hs0 := Below.refl w.heap.size w
 go_enter func23, ntmps23
 go_upto_region 0 with fail
 apply wR
 refine cN #[.slice none 0 0, .slice none 0 0, .bool false, .bool false, .slice none 0 0, .slice none 0 0, .slice none 0 0, .int .i64 0, .slice none 0 0, .slice none 0 0] 25 ?_
 intro ba w1 ba_ge ba_lt hba hb1
 obtain ⟨hS1, hz1, hy1⟩ := zC hs0 hb1
 refine wP ?_
 refine pQ [_] ?_
 go_upto_region 1 with fail
 apply wR
 refine cN #[.string ⟨#[]⟩, .string ⟨#[]⟩, .bool false, .bool false, .string ⟨#[]⟩, .string ⟨#[]⟩, .string ⟨#[]⟩, .int .i64 0, .slice none 0 0, .slice none 0 0] 74 ?_
 intro bx w2 bx_ge bx_lt hbx hb2
 obtain ⟨hS2, hz2, hy2⟩ := zC hS1 hb2
 replace hba := hba.grow hb2
 refine wP ?_
 refine wN ?_
 have huc : UAt w2 bx 0 [] [] 74 (default : SU) := ⟨⟨.slice none 0 0, .slice none 0 0, ⟨rfl, hbx⟩, hps_nil _, hps_nil _⟩, ⟨by decide, by decide, by decide, by decide⟩⟩
 have hq2 : Below w0.heap.size w0 w2 := hw.trans (hS2.mono hw.size)
 have hbxn : w0.heap.size ≤ bx := by have := hw.size; omega
 have hne : ba ≠ bx := by omega
 have hbal : ba < w2.heap.size := by omega
 have hbr := hba.row
 clear hbx hs0 hS1 hb1 hb2 hw hba
 go_upto_region 2 with fail
 refine pR [_] ?_
 refine kE 22 9 (.slice A knownB.length c) (.string (mk knownB)) (conv_b (HB.out.grow hS2)) ?_
 refine Wl.step (fun K hK => ?_)
 refine sC func48 #[.string (mk knownB), .pointer (some ⟨bx, 0, none⟩)] (parseUri_c w0 hE bx 0 [] [] 74 _ _ _ huc (by decide) (by decide) hq2 hbxn) ?_
 intro e w3 hpo
 obtain ⟨rfl, hu', hst⟩ := pout_known hpo
 clear hpo
 refine ⟨_, rfl, ?_⟩
 have hS3 : Below w.heap.size w w3 := hS2.trans (hst.low (by omega) (by omega) (by omega))
 have hz3 := hst.size
 obtain ⟨cz, hz1, hz2⟩ := hbr
 have hbr : isRow w3 ba 25 10 := ⟨cz, hst.block _ _ hz1 hne (.inr (fun c fr e => by injection e with _ e2; exact absurd e2 (by decide))), hz2⟩
 clear huc hst
 refine hK _ _ ?_
 clear hK K
 (try simp only [Act.put, zD, zE, zF])
 refine pQ [_] ?_
 obtain ⟨⟨v8, v9, hv, h8, h9⟩, hok⟩ := hu'
 obtain ⟨A8, c8, hA8⟩ := h8.shape
 obtain ⟨A9, c9, hA9⟩ := h9.shape
 subst hA8
 subst hA9
 replace h8 : HPs w3 (.slice A8 0 c8) [] := h8
 replace h9 : HPs w3 (.slice A9 0 c9) [] := h9
 have hx : Blk w3 bx #[.string ⟨#[115, 105, 112]⟩, .string ⟨#[]⟩, .bool false, .bool false, .string ⟨#[98, 111, 98]⟩, .string ⟨#[]⟩, .string ⟨#[98, 46, 111, 114, 103]⟩, .int .i64 5070, .slice A8 0 c8, .slice A9 0 c9] 74 := hv.blk
 clear hv hok
 have HP : Hid (∀ wr, SUR wr #[.string ⟨#[115, 105, 112]⟩, .string ⟨#[]⟩, .bool false, .bool false, .string ⟨#[98, 111, 98]⟩, .string ⟨#[]⟩, .string ⟨#[98, 46, 111, 114, 103]⟩, .int .i64 5070, .slice A8 0 c8, .slice A9 0 c9] knownSU) := fun wr => SUR.mk' (u := knownSU) (hps_any h8) (hps_any h9) (by decide) (by decide)
 clear h8 h9
 have hsz : knownSU.scheme.size ≤ 1000000000 ∧ knownSU.raw.size ≤ 1000000000 ∧ knownSU.user.size ≤ 1000000000 ∧ knownSU.pass.size ≤ 1000000000 ∧ knownSU.host.size ≤ 1000000000 := by decide
 have hS3' : Below w.heap.size w w3 ∧ Blk w3 bx #[.string ⟨#[115, 105, 112]⟩, .string ⟨#[]⟩, .bool false, .bool false, .string ⟨#[98, 111, 98]⟩, .string ⟨#[]⟩, .string ⟨#[98, 46, 111, 114, 103]⟩, .int .i64 5070, .slice A8 0 c8, .slice A9 0 c9] 74 ∧ isRow w3 ba 25 10 := ⟨hS3, hx, hbr⟩
 clear hS3 hx hbr
 go_upto_region 3 with fail
 refine wp_region_noPanic ?_
 have hSd3 : (fun w' => Below w.heap.size w w' ∧ Blk w' bx #[.string ⟨#[115, 105, 112]⟩, .string ⟨#[]⟩, .bool false, .bool false, .string ⟨#[98, 111, 98]⟩, .string ⟨#[]⟩, .string ⟨#[98, 46, 111, 114, 103]⟩, .int .i64 5070, .slice A8 0 c8, .slice A9 0 c9] 74 ∧ isRow w' ba 25 10) (w3).drew := ⟨hS3'.1.trans ((below_drew1 _).mono hS3'.1.size), hS3'.2.1, hS3'.2.2⟩
 refine wp_region_held_drew (S := fun w' => Below w.heap.size w w' ∧ Blk w' bx #[.string ⟨#[115, 105, 112]⟩, .string ⟨#[]⟩, .bool false, .bool false, .string ⟨#[98, 111, 98]⟩, .string ⟨#[]⟩, .string ⟨#[98, 46, 111, 114, 103]⟩, .int .i64 5070, .slice A8 0 c8, .slice A9 0 c9] 74 ∧ isRow w' ba 25 10) (by kernel_rfl) hSd3 (fun _ => ?_)
 refine tk 0 (.agg #[.string ⟨#[115, 105, 112]⟩, .string ⟨#[]⟩, .bool false, .bool false, .string ⟨#[98, 111, 98]⟩, .string ⟨#[]⟩, .string ⟨#[98, 46, 111, 114, 103]⟩, .int .i64 5070, .slice A8 0 c8, .slice A9 0 c9]) rfl (yA 74 bx 0 #[.string ⟨#[115, 105, 112]⟩, .string ⟨#[]⟩, .bool false, .bool false, .string ⟨#[98, 111, 98]⟩, .string ⟨#[]⟩, .string ⟨#[98, 46, 111, 114, 103]⟩, .int .i64 5070, .slice A8 0 c8, .slice A9 0 c9] underlying74 (by kernel_rfl) (fun w h => h.2.1.cells)) hSd3 ?_
 refine tk 2 .nilIface rfl yR hSd3 ?_
 refine tk 3 (.bool true) rfl yR hSd3 ?_
 refine rd 1 rfl (fun K hK => ?_)
 refine sC func49 #[.agg #[.string ⟨#[115, 105, 112]⟩, .string ⟨#[]⟩, .bool false, .bool false, .string ⟨#[98, 111, 98]⟩, .string ⟨#[]⟩, .string ⟨#[98, 46, 111, 114, 103]⟩, .int .i64 5070, .slice A8 0 c8, .slice A9 0 c9]] (place_nil _ knownSU _ (HP.out _) rfl rfl hsz) ?_
 rintro e w4 ⟨cs, rfl, hu, hb4⟩
 refine ⟨_, rfl, ?_⟩
 have hS4 : Below w.heap.size w w4 ∧ Blk w4 bx #[.string ⟨#[115, 105, 112]⟩, .string ⟨#[]⟩, .bool false, .bool false, .string ⟨#[98, 111, 98]⟩, .string ⟨#[]⟩, .string ⟨#[98, 46, 111, 114, 103]⟩, .int .i64 5070, .slice A8 0 c8, .slice A9 0 c9] 74 ∧ isRow w4 ba 25 10 := ⟨hSd3.1.trans (hb4.mono hSd3.1.size), hSd3.2.1.grow hb4, hSd3.2.2.grow hb4⟩
 have hk := (hu _ (Agr.refl _ _)).size
 have hone := (hu _ (Agr.refl _ _)).one
 refine sh hK hS4 ?_
 clear hK K
 refine rd 4 rfl (fun K hK => ?_)
 refine step_store_row rfl 25 _ _ rfl ba cs (by kernel_rfl) (by kernel_rfl) 25 (hk ▸ hS4.2.2) (by rw [hk]; kernel_rfl) hone ?_
 obtain ⟨c0, g1, g2⟩ := hS4.2.2
 have hgg := setRow_heap w4 ba c0 cs _ _ g1
 have huu : UrR (w4.setRow ba cs) cs knownUr := hu _ (agr_setRow (show ba < w3.heap.size by omega) _ _)
 have hS5 : Below w.heap.size w (w4.setRow ba cs) ∧ Blk (w4.setRow ba cs) bx #[.string ⟨#[115, 105, 112]⟩, .string ⟨#[]⟩, .bool false, .bool false, .string ⟨#[98, 111, 98]⟩, .string ⟨#[]⟩, .string ⟨#[98, 46, 111, 114, 103]⟩, .int .i64 5070, .slice A8 0 c8, .slice A9 0 c9] 74 ∧ isRow (w4.setRow ba cs) ba 25 10 := ⟨hS4.1.trans (below_setRow _ _ _ _ (by omega)), (setRow_other _ _ _ _ (by omega)).trans hS4.2.1, isRow_set hS4.2.2 _ hk⟩
 obtain ⟨w5, hw5⟩ : ∃ W, W = World.setRow w4 ba cs := ⟨_, rfl⟩
 rw [← hw5] at hgg huu hS5 ⊢
 clear hw5
 refine sh hK hS5 ?_
 clear hK K
 refine tk 5 (.bool true) rfl yR hS5 ?_
 refine wpAnyH_done (by kernel_rfl) ?_ _
 refine NoPanic.normal ?_
 go_wp2
 exact bodyPost_ret (results_row2 rfl _ _ ba cs _ _ _ _ rfl hgg rfl underlying25 rfl (by rw [hk]; kernel_rfl)) rfl ⟨cs, rfl, huu, hS5.1⟩
theorem known_toSU : toSU knownUr = knownSU := by kernel_rfl
theorem known_small : knownUr.Small := by constructor <;> first | decide | (constructor <;> first | decide | (intro x hx; cases hx))
theorem uriTextK_c (w0 : World) (hE : Env w0) (cs : Array Value) (w : World) (hw : Below w0.heap.size w0 w) (h : UrR w cs knownUr) : Calls Tryz.prog 25 #[.agg cs] w fun e w' => ∃ v, e = .returned v ∧ Bs w' v knownB ∧ Below w.heap.size w w' := by
 have hk := h.size
 have hs0 := Below.refl w.heap.size w
 go_enter func25, ntmps25
 go_upto_region 1 with fail
 obtain ⟨w1, hw1⟩ : ∃ W, W = w.alloc (.cells cs 25) := ⟨_, rfl⟩
 have hbk : Blk w1 w.heap.size cs 25 := by rw [hw1]; exact Blk.new w _ _
 have hB1 : Below w.heap.size w w1 := by rw [hw1]; exact below_alloc1 w _
 have hz1 : w.heap.size + 1 ≤ w1.heap.size := hbk.lt
 rw [← hw1]
 clear hw1
 have hu := h.grow hB1
 have HC : Hid (∀ wr, Below (w.heap.size + 1) w1 wr → ∀ j v, cs[j]? = some v → wr.cell? ⟨w.heap.size, 0 + j, none⟩ = some v) := fun wr hr => by
  have h2 : Blk wr w.heap.size cs 25 := (hr.block w.heap.size (by omega)).trans hbk
  exact h2.cells
 have hs1 := Below.refl (w.heap.size + 1) w1
 clear h hbk
 go_upto_region 1 with fail
 apply wR
 refine yb (.agg (cs)) hs1 (yA 25 w.heap.size 0 cs underlying25 (by rw [hk]; kernel_rfl) (fun w h => HC.out w h)) ?_
 refine cC func51 #[.agg cs] (address_c0 cs knownUr _ hu known_small rfl) ?_
 rintro e w2 ⟨cs', rfl, hsu, hb2⟩
 refine cR ?_
 have hS2 := hs1.trans (hb2.mono (by omega))
 rw [known_toSU] at hsu
 obtain ⟨v8, v9, rfl, p8, p9⟩ := hsu.cellsEq
 obtain ⟨A8, c8, rfl⟩ := p8.shape
 obtain ⟨A9, c9, rfl⟩ := p9.shape
 clear hsu p8 p9
 have hy := hb2.size
 refine cN #[.string ⟨#[]⟩, .string ⟨#[]⟩, .bool false, .bool false, .string ⟨#[]⟩, .string ⟨#[]⟩, .string ⟨#[]⟩, .int .i64 0, .slice none 0 0, .slice none 0 0] 74 ?_
 intro bx w3 bx_ge bx_lt hbx hb3
 obtain ⟨hS3, hz3, hy3⟩ := zC hS2 hb3
 refine wP ?_
 refine cB 74 bx 0 [.string ⟨#[115, 105, 112]⟩, .string ⟨#[]⟩, .bool false, .bool false, .string ⟨#[98, 111, 98]⟩, .string ⟨#[]⟩, .string ⟨#[98, 46, 111, 114, 103]⟩, .int .i64 5070, .slice A8 0 c8, .slice A9 0 c9] 74 hbx ?_
 intro w4 hbx' hO4
 have hS4 := hS3.trans (hO4.below (by omega))
 have hz4 := hS4.size
 clear hbx
 have hbx := hbx'
 clear hbx'
 have hzz4 := hO4.size
 replace hO4 := Lib.hid hO4
 refine wN ?_
 go_upto_region 2 with fail
 apply wR
 refine cD func52 (uriString_known w0 hE bx A8 A9 c8 c9 w4 (hw.trans ((hB1.trans (hS4.mono (by omega))).mono hw.size)) hbx) ?_
 rintro e w5 ⟨rfl, hb5⟩
 refine cR ?_
 have hS5 := zA hS4 hb5
 clear hbx
 refine Wl.step (fun K hK => ?_)
 refine st_conv 9 22 5 rfl (s := ⟨knownB.toArray⟩) (by kernel_rfl) (by decide) underlying9 underlying22 underlying5 ?_
 intro v7 w6 q7 hb6
 have hS6 := zA hS5 hb6
 refine hK _ _ ?_
 clear hK K
 (try simp only [Act.put, zD, zE, zF])
 refine pQ [_] ?_
 go_wp2
 go_ret
 exact ⟨_, rfl, q7, hB1.trans (hS6.mono (by omega))⟩
def trNmB : By := [116, 114, 97, 110, 115, 112, 111, 114, 116]
def byL (ps : List KV) (l : By) : By := match valueOfL trNmB ps with | some x => if x = [] then l else x.map upB | none => l
def secL (sc b : By) : By := if sc = sipsB then (if b = [84, 67, 80] then [84, 76, 83] else if b = [87, 83] then [87, 83, 83] else b) else b
def securedL (u : Ur) (l : By) : By := secL u.scheme (byL u.ps l)
theorem vo_none {v : Value} {l : List KV} {s : ByteArray} {w : World} (h : KVs w v l) (hs : s.size ≤ 4611686018427387904) (hv : valueOfL s.data.toList l = none) :
 Calls Tryz.prog 9 #[v, .string s] w fun e w' => ∃ A n c, e = .returned (.tuple #[.slice A n c, .bool false]) ∧ Below w.heap.size w w' :=
 (valueOf_c v l s w h hs).mono fun e w' q => by
  rw [hv] at q
  obtain ⟨r, e1, e2, e3⟩ := q
  obtain ⟨A, c, rfl⟩ := e2.shape
  exact ⟨A, _, c, e1, e3⟩
theorem vo_some {v : Value} {l : List KV} {s : ByteArray} {w : World} {x : By} (h : KVs w v l) (hs : s.size ≤ 4611686018427387904) (hv : valueOfL s.data.toList l = some x) :
 Calls Tryz.prog 9 #[v, .string s] w fun e w' => ∃ A c, e = .returned (.tuple #[.slice A x.length c, .bool true]) ∧ Bs w' (.slice A x.length c) x ∧ Below w.heap.size w w' :=
 (valueOf_c v l s w h hs).mono fun e w' q => by
  rw [hv] at q
  obtain ⟨r, e1, e2, e3⟩ := q
  obtain ⟨A, c, rfl⟩ := e2.shape
  exact ⟨A, c, e1, e2, e3⟩
theorem is_at (v : Value) (l key : By) (b : Bool) (s : ByteArray) (w : World) (h : Bs w v l) (hk : s.data.toList = key) (hs : s.size ≤ 4611686018427387904) (hb : equalB l key = b) :
 Calls Tryz.prog 17 #[v, .string s] w fun e w' => e = .returned (.bool b) ∧ Below w.heap.size w w' :=
 (is_c v l s w h hs).mono fun _ _ q => ⟨by rw [q.1, hk, hb], q.2⟩
theorem bs_row' {w : World} {b : Nat} {T : TypeId} {fr : Nat × Nat} (l : By) {C : Array Value} (hC : C = bcells l) (h : w.heap[b]? = some (.cells C T fr)) (hm : l.length ≤ 1000) : Bs w (.slice (some ⟨b, 0, none⟩) l.length l.length) l := bs_row l hC h hm
theorem mk_inj {l : By} {a : Array UInt8} (h : mk l = ⟨a⟩) : l = a.toList := by
 unfold mk at h
 injection h with h
 rw [← h]
theorem mk_lit {l : By} {a : Array UInt8} (h : l = a.toList) : mk l = ⟨a⟩ := by rw [h]; rfl
theorem byL_len {ps : List KV} {l : By} (hs : SmallKVs ps) (hl : l.length ≤ 1048576) : (byL ps l).length ≤ 1048576 := by
 unfold byL
 split
 ·split
  ·exact hl
  ·rename_i x hx _
   rw [List.length_map]
   clear hl
   obtain ⟨h1, h2⟩ := hs
   induction ps with
   | nil => cases hx
   | cons y t ih =>
     unfold valueOfL at hx
     split at hx
     ·have e := Option.some.inj hx
      have := (h2 0 (by simp)).v
      rw [← e]
      exact this
     ·refine ih hx (by simp at h1; omega) fun i hi => ?_
      exact h2 (i + 1) (by simp; omega)
 ·exact hl
theorem secured_c (cs : Array Value) (u : Ur) (v : Value) (l : By) (w : World) (h : UrR w cs u) (hv : Bs w v l) (hsm : u.Small) (hl : l.length ≤ 1048576) :
 Calls Tryz.prog 14 #[.agg cs, v] w fun e w' => ∃ r, e = .returned r ∧ Bs w' r (securedL u l) ∧ Below w.heap.size w w' := by
 have hU := h
 obtain ⟨A0, l0, n0, A1, l1, n1, st, sl, A4, l4, n4, A5, l5, n5, A6, l6, n6, pt, A8, l8, n8, A9, l9, n9, rfl⟩ := h.lit
 have h0 : Bs w (.slice A0 l0 n0) u.scheme := by obtain ⟨x, e, r⟩ := hU.scheme; cases e; exact r
 have h8 : KVs w (.slice A8 l8 n8) u.ps := by obtain ⟨x, e, r⟩ := hU.ps; cases e; exact r
 have hml := byL_len hsm.ps hl
 have H0 := Lib.hid h0
 have H8 := Lib.hid h8
 have HV := Lib.hid hv
 obtain ⟨Av, cv, rfl⟩ := hv.shape
 obtain ⟨m, hm⟩ : ∃ m, m = byL u.ps l := ⟨_, rfl⟩
 rw [← hm] at hml
 have HM := Lib.hid hm
 have HR : Hid (securedL u l = secL u.scheme m) := by rw [hm]; rfl
 clear h h0 h8 hv hU hm hsm
 have hs0 := Below.refl w.heap.size w
 go_enter func14, ntmps14
 go_upto_region 0 with fail
 apply wR
 refine cN #[.slice A0 l0 n0, .slice A1 l1 n1, .bool st, .bool sl, .slice A4 l4 n4, .slice A5 l5 n5, .slice A6 l6 n6, .int .i64 pt, .slice A8 l8 n8, .slice A9 l9 n9] 25 ?_
 intro b2 w1 b2_ge b2_lt k2 hb1
 obtain ⟨hS1, hz1, hy1⟩ := zC hs0 hb1
 refine wP ?_
 refine pQ [_] ?_
 go_step
 go_step
 go_step
 go_cut [1] from 5 (fun v1 wx => ∃ An cn, v1 = .slice An m.length cn ∧ Bs wx (.slice An m.length cn) m ∧ Blk wx b2 #[.slice A0 l0 n0, .slice A1 l1 n1, .bool st, .bool sl, .slice A4 l4 n4, .slice A5 l5 n5, .slice A6 l6 n6, .int .i64 pt, .slice A8 l8 n8, .slice A9 l9 n9] 25 ∧ Below w.heap.size w wx)
 case first =>
  cases hq : valueOfL trNmB u.ps with
  | none =>
    have e : m = l := by have := HM.out; unfold byL at this; rw [hq] at this; exact this
    subst e
    go_upto_region 1 with fail
    refine pR [.pointer (some ⟨b2, 8, none⟩)] ?_
    refine Wl.ld (k2.cell 8 (.slice A8 l8 n8) (by kernel_rfl)) underlying23 ?_
    refine cC func9 #[.slice A8 l8 n8, .string ⟨#[116, 114, 97, 110, 115, 112, 111, 114, 116]⟩] (vo_none (H8.out.grow hS1) (by decide) hq) ?_
    rintro e w2 ⟨Ax, lx, cx, rfl, hb2⟩
    refine cR ?_
    obtain ⟨hS2, hz2, hy2⟩ := zC hS1 hb2
    replace k2 := k2.grow hb2
    refine pQ [_, .slice Ax lx cx, .bool false, _, _] ?_
    go_upto_region 2 with fail
    refine pR [_, _] ?_
    refine Wl.u ?_
    refine Wl.u ?_
    refine Wl.u ?_
    refine pQ [.bool false] ?_
    go_wp2_with fail
    go_meet
    case rel => exact ⟨Av, cv, rfl, HV.out.grow hS2, k2, hS2⟩
  | some x =>
    by_cases hx : x = []
    ·have e : m = l := by have := HM.out; unfold byL at this; rw [hq] at this; simpa [hx] using this
     subst e
     subst hx
     go_upto_region 1 with fail
     refine pR [.pointer (some ⟨b2, 8, none⟩)] ?_
     refine Wl.ld (k2.cell 8 (.slice A8 l8 n8) (by kernel_rfl)) underlying23 ?_
     refine cC func9 #[.slice A8 l8 n8, .string ⟨#[116, 114, 97, 110, 115, 112, 111, 114, 116]⟩] (vo_some (H8.out.grow hS1) (by decide) hq) ?_
     rintro e w2 ⟨Ax, cx, rfl, hbx, hb2⟩
     refine cR ?_
     obtain ⟨hS2, hz2, hy2⟩ := zC hS1 hb2
     replace k2 := k2.grow hb2
     refine pQ [_, .slice Ax 0 cx, .bool true, _, _] ?_
     go_upto_region 2 with fail
     refine pS [_, _, _, .int .i64 0, .bool false, .bool false] ?_
     go_wp2_with fail
     go_meet
     case rel => exact ⟨Av, cv, rfl, HV.out.grow hS2, k2, hS2⟩
    ·have e : m = x.map upB := by have := HM.out; unfold byL at this; rw [hq] at this; simpa [hx] using this
     have hxl : 0 < x.length := List.length_pos_iff.2 hx
     have hxm : x.length ≤ 1048576 := by rw [e] at hml; simpa using hml
     obtain ⟨n, hn⟩ : ∃ n, n = x.length := ⟨_, rfl⟩
     have hnm : n = m.length := by rw [e, hn]; simp
     have HVS := Lib.hid (fun w' (hB : Below w.heap.size w w') => vo_some (w := w') (H8.out.grow hB) (s := ⟨#[116, 114, 97, 110, 115, 112, 111, 114, 116]⟩) (by decide) hq)
     rw [← hn] at HVS hxl
     go_upto_region 1 with fail
     refine pR [.pointer (some ⟨b2, 8, none⟩)] ?_
     refine Wl.ld (k2.cell 8 (.slice A8 l8 n8) (by kernel_rfl)) underlying23 ?_
     refine cC func9 #[.slice A8 l8 n8, .string ⟨#[116, 114, 97, 110, 115, 112, 111, 114, 116]⟩] (HVS.out _ hS1) ?_
     rintro e w2 ⟨Ax, cx, rfl, hbx, hb2⟩
     refine cR ?_
     obtain ⟨hS2, hz2, hy2⟩ := zC hS1 hb2
     replace k2 := k2.grow hb2
     refine pQ [_, .slice Ax n cx, .bool true, _, _] ?_
     go_upto_region 2 with fail
     refine pR [_, _, _, .int .i64 (n : Nat)] ?_
     refine igT .i64 (n : Nat) 0 ?_
     refine pQ [.bool true] ?_
     go_upto_region 3 with fail
     refine pR [_] ?_
     refine cC func33 #[.slice Ax n cx] (loud_c (.slice Ax n cx) x _ hbx (by omega)) ?_
     rintro e w3 ⟨y, rfl, hy, hb3⟩
     refine cR ?_
     obtain ⟨hS3, hz3, hy3⟩ := zC hS2 hb3
     replace hbx := hbx.grow hb3
     replace k2 := k2.grow hb3
     obtain ⟨Ay, cy, rfl⟩ := hy.atn n (by rw [hn]; simp)
     refine pQ [_] ?_
     go_wp2_with fail
     go_meet
     case rel => exact ⟨Ay, cy, by rw [hnm], by rw [← hnm, e]; exact hy.bs, k2, hS3⟩
 case rest =>
  obtain ⟨An, cn, rfl, hm, k2, hB⟩ := hcut
  clear hS1 hs0 hb1
  have hzc := hB.size
  by_cases hsc : u.scheme = sipsB
  ·have hi := Lib.hid (fun w' (hB : Below w.heap.size w w') => is_at (.slice A0 l0 n0) u.scheme sipsB true ⟨#[115, 105, 112, 115]⟩ w' (H0.out.grow hB) rfl (by decide) (decide_eq_true hsc))
   have hcv : Hid (∀ w', Below wc.heap.size wc w' → (convert 22 9 (.slice An m.length cn)).run Tryz.prog w' = .ok (.string (mk m)) w') := fun w' h => conv_b (hm.grow h)
   have hsc0 := Below.refl wc.heap.size wc
   by_cases e1 : m = [84, 67, 80]
   ·skip
    go_upto_region 4 with fail
    refine pR [.pointer (some ⟨b2, 0, none⟩)] ?_
    refine Wl.ld (k2.cell 0 (.slice A0 l0 n0) (by kernel_rfl)) underlying22 ?_
    refine cC func17 #[.slice A0 l0 n0, .string ⟨#[115, 105, 112, 115]⟩] (hi.out _ (hB.trans (hsc0.mono hzc))) ?_
    rintro e w11 ⟨rfl, hb11⟩
    refine cR ?_
    obtain ⟨hS11, hz11, hy11⟩ := zC hsc0 hb11
    replace k2 := k2.grow hb11
    refine pQ [.bool false] ?_
    go_upto_region 6 with fail
    refine pR [_] ?_
    refine kE 22 9 (.slice An m.length cn) (.string (mk m)) (hcv.out _ hS11) ?_
    refine wN ?_
    go_upto_region 7 with fail
    apply wR
    refine isT (mk m) ⟨#[84, 67, 80]⟩ (mk_lit e1) ?_
    refine pQ [_] ?_
    go_upto_region 8 with fail
    apply wR
    refine Wl.step (fun K hK => ?_)
    refine step_new rfl (fun b => .slice (some ⟨b, 0, none⟩) 3 3) (#[.int .u8 84, .int .u8 76, .int .u8 83]) 5 (by kernel_rfl) ?_
    intro b30 w12 b30_ge b30_lt k30 hb12
    obtain ⟨hS12, hz12, hy12⟩ := zC hS11 hb12
    replace k2 := k2.grow hb12
    refine hK _ _ ?_
    clear hK K
    (try simp only [Act.put, zD, zE, zF])
    refine Wl.step (fun K hK => ?_)
    refine step_const rfl 22 5 _ rfl b30 3 3 _ (by kernel_rfl) underlying22 underlying5 k30 ?_
    intro w13 hO h30
    have hS13 : Below wc.heap.size wc w13 := hS12.trans (hO.below (by omega))
    clear k30
    refine hK _ _ ?_
    clear hK K
    (try simp only [Act.put, zD, zE, zF])
    refine pQ [_] ?_
    go_wp2
    go_ret
    exact ⟨_, rfl, by rw [HR.out]; unfold secL; rw [if_pos hsc, if_pos e1]; exact bs_row' [84, 76, 83] rfl h30 (by decide), hB.trans (hS13.mono hzc)⟩
   ·by_cases e2 : m = [87, 83]
    ·skip
     go_upto_region 4 with fail
     refine pR [.pointer (some ⟨b2, 0, none⟩)] ?_
     refine Wl.ld (k2.cell 0 (.slice A0 l0 n0) (by kernel_rfl)) underlying22 ?_
     refine cC func17 #[.slice A0 l0 n0, .string ⟨#[115, 105, 112, 115]⟩] (hi.out _ (hB.trans (hsc0.mono hzc))) ?_
     rintro e w11 ⟨rfl, hb11⟩
     refine cR ?_
     obtain ⟨hS11, hz11, hy11⟩ := zC hsc0 hb11
     replace k2 := k2.grow hb11
     refine pQ [.bool false] ?_
     go_upto_region 6 with fail
     refine pR [_] ?_
     refine kE 22 9 (.slice An m.length cn) (.string (mk m)) (hcv.out _ hS11) ?_
     refine wN ?_
     go_upto_region 7 with fail
     apply wR
     refine isF (mk m) ⟨#[84, 67, 80]⟩ (fun q => e1 (mk_inj q)) ?_
     refine pQ [_] ?_
     go_upto_region 9 with fail
     apply wR
     refine isT (mk m) ⟨#[87, 83]⟩ (mk_lit e2) ?_
     refine pQ [_] ?_
     go_upto_region 10 with fail
     apply wR
     refine Wl.step (fun K hK => ?_)
     refine step_new rfl (fun b => .slice (some ⟨b, 0, none⟩) 3 3) (#[.int .u8 87, .int .u8 83, .int .u8 83]) 5 (by kernel_rfl) ?_
     intro b34 w12 b34_ge b34_lt k34 hb12
     obtain ⟨hS12, hz12, hy12⟩ := zC hS11 hb12
     replace k2 := k2.grow hb12
     refine hK _ _ ?_
     clear hK K
     (try simp only [Act.put, zD, zE, zF])
     refine Wl.step (fun K hK => ?_)
     refine step_const rfl 22 5 _ rfl b34 3 3 _ (by kernel_rfl) underlying22 underlying5 k34 ?_
     intro w13 hO h34
     have hS13 : Below wc.heap.size wc w13 := hS12.trans (hO.below (by omega))
     clear k34
     refine hK _ _ ?_
     clear hK K
     (try simp only [Act.put, zD, zE, zF])
     refine pQ [_] ?_
     go_wp2
     go_ret
     exact ⟨_, rfl, by rw [HR.out]; unfold secL; rw [if_pos hsc, if_neg e1, if_pos e2]; exact bs_row' [87, 83, 83] rfl h34 (by decide), hB.trans (hS13.mono hzc)⟩
    ·skip
     go_upto_region 4 with fail
     refine pR [.pointer (some ⟨b2, 0, none⟩)] ?_
     refine Wl.ld (k2.cell 0 (.slice A0 l0 n0) (by kernel_rfl)) underlying22 ?_
     refine cC func17 #[.slice A0 l0 n0, .string ⟨#[115, 105, 112, 115]⟩] (hi.out _ (hB.trans (hsc0.mono hzc))) ?_
     rintro e w11 ⟨rfl, hb11⟩
     refine cR ?_
     obtain ⟨hS11, hz11, hy11⟩ := zC hsc0 hb11
     replace k2 := k2.grow hb11
     refine pQ [.bool false] ?_
     go_upto_region 6 with fail
     refine pR [_] ?_
     refine kE 22 9 (.slice An m.length cn) (.string (mk m)) (hcv.out _ hS11) ?_
     refine wN ?_
     go_upto_region 7 with fail
     apply wR
     refine isF (mk m) ⟨#[84, 67, 80]⟩ (fun q => e1 (mk_inj q)) ?_
     refine pQ [_] ?_
     go_upto_region 9 with fail
     apply wR
     refine isF (mk m) ⟨#[87, 83]⟩ (fun q => e2 (mk_inj q)) ?_
     refine pQ [_] ?_
     go_upto_region 11 with fail
     refine pS [_, _] ?_
     go_wp2
     go_ret
     exact ⟨_, rfl, by rw [HR.out]; unfold secL; rw [if_pos hsc, if_neg e1, if_neg e2]; exact hm.grow hS11, hB.trans (hS11.mono hzc)⟩
  ·have hi := Lib.hid (fun w' (hB : Below w.heap.size w w') => is_at (.slice A0 l0 n0) u.scheme sipsB false ⟨#[115, 105, 112, 115]⟩ w' (H0.out.grow hB) rfl (by decide) (decide_eq_false hsc))
   have hsc0 := Below.refl wc.heap.size wc
   go_upto_region 4 with fail
   refine pR [.pointer (some ⟨b2, 0, none⟩)] ?_
   refine Wl.ld (k2.cell 0 (.slice A0 l0 n0) (by kernel_rfl)) underlying22 ?_
   refine cC func17 #[.slice A0 l0 n0, .string ⟨#[115, 105, 112, 115]⟩] (hi.out _ (hB.trans (hsc0.mono hzc))) ?_
   rintro e w11 ⟨rfl, hb11⟩
   refine cR ?_
   obtain ⟨hS11, hz11, hy11⟩ := zC hsc0 hb11
   replace k2 := k2.grow hb11
   refine pQ [.bool true] ?_
   go_upto_region 5 with fail
   refine pS [_, _] ?_
   go_wp2
   go_ret
   exact ⟨_, rfl, by rw [HR.out]; unfold secL; rw [if_neg hsc]; exact hm.grow hS11, hB.trans (hS11.mono hzc)⟩
end Go.Proofs.YtfcllhdhfenmcaaGreatDoor
