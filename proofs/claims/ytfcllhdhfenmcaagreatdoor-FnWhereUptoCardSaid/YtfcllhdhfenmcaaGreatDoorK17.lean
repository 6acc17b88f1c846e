/- Part 17 of the proof: laws and walks (merged by a program). -/
import Derived.Test.YtfcllhdhfenmcaaGreatDoorK01
import Derived.Test.YtfcllhdhfenmcaaGreatDoorK16
set_option linter.all false
set_option maxHeartbeats 8000000
set_option maxRecDepth 100000
namespace Go.Proofs.YtfcllhdhfenmcaaGreatDoor
open Go.RowKit Go.Proofs.Tryz
def Kh (w w' : World) : Prop := ∀ (k : Nat) (c : Array Value) (T : TypeId) (fr : Nat × Nat), w.heap[k]? = some (.cells c T fr) → T ≠ 81 → w'.heap[k]? = some (.cells c T fr)
theorem Kh.kt {w w' : World} (h : Kh w w') : Kt w w' := fun _ _ _ _ e _ _ h3 => h _ _ _ _ e h3
theorem infoIH : (Tryz.prog.info? 81).map (fun i => (i.zero, i.size, i.bytes)) = some (some .nilIface, 1, 16) := by kernel_rfl
theorem step_append_hdr {ops : Array Oper} {o : Oper} {a : Act} {W : World} {K : Act → World → Prop} {Q : Exit → Act → World → Prop} {E : Prop} (hgd : o.guard = none) (s x : Operand)
 (ho : o.op = .call { callee := .builtin .append, args := #[s, x], argTypes := #[89, 89] })
 (base : Nat) (v y : Value) (vals : List Value) (b c : Nat) (hs : a.eval s = v) (hx : a.eval x = .slice (some ⟨b, 0, none⟩) 1 c) (hb : Blk W b #[y] 81) (hy : y.oneCell' = true)
 (HO : W.ownsRow base 81 1 v vals.length vals) (hbase : base ≤ W.heap.size) (hlen : vals.length + 1 ≤ 4000000000000)
 (h : ∀ v1 W1, W1.ownsRow base 81 1 v1 (vals ++ [y]).length (vals ++ [y]) → Kh W W1 → Below base W W1 → K (a.put o.dst v1) W1) : if Region.wanted o (yielded ops a.tmps) = true then Oper.wp Tryz.prog o a W K Q else E := by
 have hw : Region.wanted o (yielded ops a.tmps) = true := by simp [Region.wanted, hgd]
 rw [if_pos hw]
 obtain ⟨i0, hi, hzz⟩ := Option.map_eq_some_iff.1 infoIH
 simp only [Prod.mk.injEq] at hzz
 obtain ⟨hz0, hz1, hz2⟩ := hzz
 have HO' := HO
 refine wp_append_own W s x 89 ho base 81 i0 _ 1 16 underlying89 hi hz0 hz1 hz2 rfl (by decide) v vals.length vals hs HO ⟨b, 0, none⟩ 1 c [y] hx rfl ?_ ?_ (by unfold maxLen; omega) (by omega) hbase ?_
 ·intro j u hu
  rw [add_none]
  match j, hu with
  | 0, hu => exact hb.cells 0 u hu
  | k + 1, hu => simp at hu
 ·intro u hu
  simp only [List.mem_cons, List.not_mem_nil, or_false] at hu
  subst hu
  exact hy
 ·intro v1 W1 hown hg _
  have hbl : ∀ k, v.ownBlock = some k → base ≤ k ∧ ∃ cur, W.heap[k]? = some (.cells cur 81 (0, 0)) := by
   intro k hk
   obtain ⟨_, ⟨rfl, _⟩ | ⟨g, cap, cur, rfl, hb, hh, _⟩⟩ := HO'
   ·simp [Value.ownBlock] at hk
   ·have : g = k := by simpa [Value.ownBlock] using hk
    subst this
    exact ⟨hb, cur, hh⟩
  refine h v1 W1 (by simpa using hown) ?_ ((Below.refl base W).grown hg hbase fun k hk => (hbl k hk).1)
  intro k cc T fr e hT
  have hk : k < W.heap.size := (Array.getElem?_eq_some_iff.1 e).1
  rw [hg.block k hk (fun q => by
   obtain ⟨_, cur, e2⟩ := hbl k q.symm
   rw [e] at e2
   injection e2 with e2
   injection e2 with _ e2 _
   exact hT e2)]
  exact e
theorem Blk.kh {w w' : World} {b : Nat} {C : Array Value} {T : TypeId} (h : Blk w b C T) (hk : Kh w w') (hT : T ≠ 81) : Blk w' b C T := hk _ _ _ _ h hT
theorem setRef_t0 (w : World) (b bv : Nat) (T : TypeId) (c0 c1 c2 c3 c4 c5 c6 c7 c8 c9 c10 c11 c12 : Value) (rest : List Value) (h : Blk w b (([c0, c1, c2, c3, c4, c5, c6, c7, c8, c9, c10, c11, c12] : List Value) ++ rest).toArray T) :
 Calls Tryz.prog 206 #[.pointer (some ⟨b, 0, none⟩), .iface 159 (.pointer (some ⟨bv, 0, none⟩))] w fun e w' => e = .returned (.tuple #[]) ∧ Blk w' b (([c0, c1, c2, c3, c4, c5, c6, c7, c8, c9, c10, c11, c12] : List Value) ++ rest).toArray T ∧ Oth b w w' := by
 go_enter func206, ntmps206
 go_upto_region 0 with fail
 refine pS [_] ?_
 go_upto_region 1 with fail
 refine pS [.tuple #[.pointer none, .bool false], .bool false, .pointer none] ?_
 go_upto_region 4 with fail
 refine pS [.tuple #[.pointer none, .bool false], .bool false, .pointer none] ?_
 go_upto_region 7 with fail
 refine pS [.tuple #[.pointer none, .bool false], .bool false, .pointer none] ?_
 go_upto_region 10 with fail
 refine pS [.tuple #[.pointer none, .bool false], .bool false, .pointer none] ?_
 go_upto_region 13 with fail
 refine pS [.tuple #[.pointer none, .bool false], .bool false, .pointer none] ?_
 go_upto_region 16 with fail
 refine pS [.tuple #[.pointer none, .bool false], .bool false, .pointer none] ?_
 go_upto_region 19 with fail
 refine pS [.tuple #[.pointer none, .bool false], .bool false, .pointer none] ?_
 go_upto_region 22 with fail
 refine pS [.tuple #[.pointer none, .bool false], .bool false, .pointer none] ?_
 go_upto_region 25 with fail
 refine pS [.tuple #[.pointer none, .bool false], .bool false, .pointer none] ?_
 go_upto_region 28 with fail
 refine pS [.tuple #[.pointer none, .bool false], .bool false, .pointer none] ?_
 go_upto_region 31 with fail
 refine pS [.tuple #[.pointer none, .bool false], .bool false, .pointer none] ?_
 go_wp2
 go_end0
 exact ⟨rfl, h, ⟨rfl, rfl, rfl, rfl, fun _ _ => rfl⟩⟩
theorem setRef_t1 (w : World) (b bv : Nat) (T : TypeId) (c0 c1 c2 c3 c4 c5 c6 c7 c8 c9 c10 c11 c12 : Value) (rest : List Value) (h : Blk w b (([c0, c1, c2, c3, c4, c5, c6, c7, c8, c9, c10, c11, c12] : List Value) ++ rest).toArray T) :
 Calls Tryz.prog 206 #[.pointer (some ⟨b, 0, none⟩), .iface 92 (.pointer (some ⟨bv, 0, none⟩))] w fun e w' => e = .returned (.tuple #[]) ∧ Blk w' b (([c0, c1, c2, .pointer (some ⟨bv, 0, none⟩), c4, c5, c6, c7, c8, c9, c10, c11, c12] : List Value) ++ rest).toArray T ∧ Oth b w w' := by
 go_enter func206, ntmps206
 go_upto_region 0 with fail
 refine pS [_] ?_
 go_upto_region 1 with fail
 refine pS [.tuple #[.pointer none, .bool false], .bool false, .pointer none] ?_
 go_upto_region 4 with fail
 refine pS [.tuple #[.pointer none, .bool false], .bool false, .pointer none] ?_
 go_upto_region 7 with fail
 refine pS [.tuple #[.pointer (some ⟨bv, 0, none⟩), .bool true], .bool true, .pointer (some ⟨bv, 0, none⟩)] ?_
 go_upto_region 8 with fail
 refine pS [_] ?_
 go_upto_region 9 with fail
 refine pR [_, _, .pointer (some ⟨b, 0, none⟩), .pointer (some ⟨b, 3, none⟩)] ?_
 refine cA 92 b 3 [.pointer (some ⟨bv, 0, none⟩)] (([c0, c1, c2, .pointer (some ⟨bv, 0, none⟩), c4, c5, c6, c7, c8, c9, c10, c11, c12] : List Value) ++ rest).toArray T h ?_
 intro w1 h' hO1
 clear h
 have h := h'
 clear h'
 have hzz1 := hO1.size
 replace hO1 := Lib.hid hO1
 refine wN ?_
 go_wp2
 go_end0
 exact ⟨rfl, h, hO1.out⟩
theorem setRef_t2 (w : World) (b bv : Nat) (T : TypeId) (c0 c1 c2 c3 c4 c5 c6 c7 c8 c9 c10 c11 c12 : Value) (rest : List Value) (h : Blk w b (([c0, c1, c2, c3, c4, c5, c6, c7, c8, c9, c10, c11, c12] : List Value) ++ rest).toArray T) :
 Calls Tryz.prog 206 #[.pointer (some ⟨b, 0, none⟩), .iface 91 (.pointer (some ⟨bv, 0, none⟩))] w fun e w' => e = .returned (.tuple #[]) ∧ Blk w' b (([c0, c1, .pointer (some ⟨bv, 0, none⟩), c3, c4, c5, c6, c7, c8, c9, c10, c11, c12] : List Value) ++ rest).toArray T ∧ Oth b w w' := by
 go_enter func206, ntmps206
 go_upto_region 0 with fail
 refine pS [_] ?_
 go_upto_region 1 with fail
 refine pS [.tuple #[.pointer none, .bool false], .bool false, .pointer none] ?_
 go_upto_region 4 with fail
 refine pS [.tuple #[.pointer (some ⟨bv, 0, none⟩), .bool true], .bool true, .pointer (some ⟨bv, 0, none⟩)] ?_
 go_upto_region 5 with fail
 refine pS [_] ?_
 go_upto_region 6 with fail
 refine pR [_, _, .pointer (some ⟨b, 0, none⟩), .pointer (some ⟨b, 2, none⟩)] ?_
 refine cA 91 b 2 [.pointer (some ⟨bv, 0, none⟩)] (([c0, c1, .pointer (some ⟨bv, 0, none⟩), c3, c4, c5, c6, c7, c8, c9, c10, c11, c12] : List Value) ++ rest).toArray T h ?_
 intro w1 h' hO1
 clear h
 have h := h'
 clear h'
 have hzz1 := hO1.size
 replace hO1 := Lib.hid hO1
 refine wN ?_
 go_wp2
 go_end0
 exact ⟨rfl, h, hO1.out⟩
theorem setRef_t3 (w : World) (b bv : Nat) (T : TypeId) (c0 c1 c2 c3 c4 c5 c6 c7 c8 c9 c10 c11 c12 : Value) (rest : List Value) (h : Blk w b (([c0, c1, c2, c3, c4, c5, c6, c7, c8, c9, c10, c11, c12] : List Value) ++ rest).toArray T) :
 Calls Tryz.prog 206 #[.pointer (some ⟨b, 0, none⟩), .iface 94 (.pointer (some ⟨bv, 0, none⟩))] w fun e w' => e = .returned (.tuple #[]) ∧ Blk w' b (([c0, c1, c2, c3, c4, .pointer (some ⟨bv, 0, none⟩), c6, c7, c8, c9, c10, c11, c12] : List Value) ++ rest).toArray T ∧ Oth b w w' := by
 go_enter func206, ntmps206
 go_upto_region 0 with fail
 refine pS [_] ?_
 go_upto_region 1 with fail
 refine pS [.tuple #[.pointer none, .bool false], .bool false, .pointer none] ?_
 go_upto_region 4 with fail
 refine pS [.tuple #[.pointer none, .bool false], .bool false, .pointer none] ?_
 go_upto_region 7 with fail
 refine pS [.tuple #[.pointer none, .bool false], .bool false, .pointer none] ?_
 go_upto_region 10 with fail
 refine pS [.tuple #[.pointer none, .bool false], .bool false, .pointer none] ?_
 go_upto_region 13 with fail
 refine pS [.tuple #[.pointer none, .bool false], .bool false, .pointer none] ?_
 go_upto_region 16 with fail
 refine pS [.tuple #[.pointer (some ⟨bv, 0, none⟩), .bool true], .bool true, .pointer (some ⟨bv, 0, none⟩)] ?_
 go_upto_region 17 with fail
 refine pS [_] ?_
 go_upto_region 18 with fail
 refine pR [_, _, .pointer (some ⟨b, 0, none⟩), .pointer (some ⟨b, 5, none⟩)] ?_
 refine cA 94 b 5 [.pointer (some ⟨bv, 0, none⟩)] (([c0, c1, c2, c3, c4, .pointer (some ⟨bv, 0, none⟩), c6, c7, c8, c9, c10, c11, c12] : List Value) ++ rest).toArray T h ?_
 intro w1 h' hO1
 clear h
 have h := h'
 clear h'
 have hzz1 := hO1.size
 replace hO1 := Lib.hid hO1
 refine wN ?_
 go_wp2
 go_end0
 exact ⟨rfl, h, hO1.out⟩
theorem setRef_t4 (w : World) (b bv : Nat) (T : TypeId) (c0 c1 c2 c3 c4 c5 c6 c7 c8 c9 c10 c11 c12 : Value) (rest : List Value) (h : Blk w b (([c0, c1, c2, c3, c4, c5, c6, c7, c8, c9, c10, c11, c12] : List Value) ++ rest).toArray T) :
 Calls Tryz.prog 206 #[.pointer (some ⟨b, 0, none⟩), .iface 93 (.pointer (some ⟨bv, 0, none⟩))] w fun e w' => e = .returned (.tuple #[]) ∧ Blk w' b (([c0, c1, c2, c3, .pointer (some ⟨bv, 0, none⟩), c5, c6, c7, c8, c9, c10, c11, c12] : List Value) ++ rest).toArray T ∧ Oth b w w' := by
 go_enter func206, ntmps206
 go_upto_region 0 with fail
 refine pS [_] ?_
 go_upto_region 1 with fail
 refine pS [.tuple #[.pointer none, .bool false], .bool false, .pointer none] ?_
 go_upto_region 4 with fail
 refine pS [.tuple #[.pointer none, .bool false], .bool false, .pointer none] ?_
 go_upto_region 7 with fail
 refine pS [.tuple #[.pointer none, .bool false], .bool false, .pointer none] ?_
 go_upto_region 10 with fail
 refine pS [.tuple #[.pointer (some ⟨bv, 0, none⟩), .bool true], .bool true, .pointer (some ⟨bv, 0, none⟩)] ?_
 go_upto_region 11 with fail
 refine pS [_] ?_
 go_upto_region 12 with fail
 refine pR [_, _, .pointer (some ⟨b, 0, none⟩), .pointer (some ⟨b, 4, none⟩)] ?_
 refine cA 93 b 4 [.pointer (some ⟨bv, 0, none⟩)] (([c0, c1, c2, c3, .pointer (some ⟨bv, 0, none⟩), c5, c6, c7, c8, c9, c10, c11, c12] : List Value) ++ rest).toArray T h ?_
 intro w1 h' hO1
 clear h
 have h := h'
 clear h'
 have hzz1 := hO1.size
 replace hO1 := Lib.hid hO1
 refine wN ?_
 go_wp2
 go_end0
 exact ⟨rfl, h, hO1.out⟩
theorem setRef_t5 (w : World) (b bv : Nat) (T : TypeId) (c0 c1 c2 c3 c4 c5 c6 c7 c8 c9 c10 c11 c12 : Value) (rest : List Value) (h : Blk w b (([c0, c1, c2, c3, c4, c5, c6, c7, c8, c9, c10, c11, c12] : List Value) ++ rest).toArray T) :
 Calls Tryz.prog 206 #[.pointer (some ⟨b, 0, none⟩), .iface 95 (.pointer (some ⟨bv, 0, none⟩))] w fun e w' => e = .returned (.tuple #[]) ∧ Blk w' b (([c0, c1, c2, c3, c4, c5, .pointer (some ⟨bv, 0, none⟩), c7, c8, c9, c10, c11, c12] : List Value) ++ rest).toArray T ∧ Oth b w w' := by
 go_enter func206, ntmps206
 go_upto_region 0 with fail
 refine pS [_] ?_
 go_upto_region 1 with fail
 refine pS [.tuple #[.pointer none, .bool false], .bool false, .pointer none] ?_
 go_upto_region 4 with fail
 refine pS [.tuple #[.pointer none, .bool false], .bool false, .pointer none] ?_
 go_upto_region 7 with fail
 refine pS [.tuple #[.pointer none, .bool false], .bool false, .pointer none] ?_
 go_upto_region 10 with fail
 refine pS [.tuple #[.pointer none, .bool false], .bool false, .pointer none] ?_
 go_upto_region 13 with fail
 refine pS [.tuple #[.pointer (some ⟨bv, 0, none⟩), .bool true], .bool true, .pointer (some ⟨bv, 0, none⟩)] ?_
 go_upto_region 14 with fail
 refine pS [_] ?_
 go_upto_region 15 with fail
 refine pR [_, _, .pointer (some ⟨b, 0, none⟩), .pointer (some ⟨b, 6, none⟩)] ?_
 refine cA 95 b 6 [.pointer (some ⟨bv, 0, none⟩)] (([c0, c1, c2, c3, c4, c5, .pointer (some ⟨bv, 0, none⟩), c7, c8, c9, c10, c11, c12] : List Value) ++ rest).toArray T h ?_
 intro w1 h' hO1
 clear h
 have h := h'
 clear h'
 have hzz1 := hO1.size
 replace hO1 := Lib.hid hO1
 refine wN ?_
 go_wp2
 go_end0
 exact ⟨rfl, h, hO1.out⟩
theorem setRef_t6 (w : World) (b bv : Nat) (T : TypeId) (c0 c1 c2 c3 c4 c5 c6 c7 c8 c9 c10 c11 c12 : Value) (rest : List Value) (h : Blk w b (([c0, c1, c2, c3, c4, c5, c6, c7, c8, c9, c10, c11, c12] : List Value) ++ rest).toArray T) :
 Calls Tryz.prog 206 #[.pointer (some ⟨b, 0, none⟩), .iface 100 (.pointer (some ⟨bv, 0, none⟩))] w fun e w' => e = .returned (.tuple #[]) ∧ Blk w' b (([c0, c1, c2, c3, c4, c5, c6, c7, c8, c9, c10, .pointer (some ⟨bv, 0, none⟩), c12] : List Value) ++ rest).toArray T ∧ Oth b w w' := by
 go_enter func206, ntmps206
 go_upto_region 0 with fail
 refine pS [_] ?_
 go_upto_region 1 with fail
 refine pS [.tuple #[.pointer none, .bool false], .bool false, .pointer none] ?_
 go_upto_region 4 with fail
 refine pS [.tuple #[.pointer none, .bool false], .bool false, .pointer none] ?_
 go_upto_region 7 with fail
 refine pS [.tuple #[.pointer none, .bool false], .bool false, .pointer none] ?_
 go_upto_region 10 with fail
 refine pS [.tuple #[.pointer none, .bool false], .bool false, .pointer none] ?_
 go_upto_region 13 with fail
 refine pS [.tuple #[.pointer none, .bool false], .bool false, .pointer none] ?_
 go_upto_region 16 with fail
 refine pS [.tuple #[.pointer none, .bool false], .bool false, .pointer none] ?_
 go_upto_region 19 with fail
 refine pS [.tuple #[.pointer none, .bool false], .bool false, .pointer none] ?_
 go_upto_region 22 with fail
 refine pS [.tuple #[.pointer none, .bool false], .bool false, .pointer none] ?_
 go_upto_region 25 with fail
 refine pS [.tuple #[.pointer none, .bool false], .bool false, .pointer none] ?_
 go_upto_region 28 with fail
 refine pS [.tuple #[.pointer none, .bool false], .bool false, .pointer none] ?_
 go_upto_region 31 with fail
 refine pS [.tuple #[.pointer (some ⟨bv, 0, none⟩), .bool true], .bool true, .pointer (some ⟨bv, 0, none⟩)] ?_
 go_upto_region 32 with fail
 refine pS [_] ?_
 go_upto_region 33 with fail
 refine pR [_, _, .pointer (some ⟨b, 0, none⟩), .pointer (some ⟨b, 11, none⟩)] ?_
 refine cA 100 b 11 [.pointer (some ⟨bv, 0, none⟩)] (([c0, c1, c2, c3, c4, c5, c6, c7, c8, c9, c10, .pointer (some ⟨bv, 0, none⟩), c12] : List Value) ++ rest).toArray T h ?_
 intro w1 h' hO1
 clear h
 have h := h'
 clear h'
 have hzz1 := hO1.size
 replace hO1 := Lib.hid hO1
 refine wN ?_
 go_wp2
 go_end0
 exact ⟨rfl, h, hO1.out⟩
theorem setRef_t7 (w : World) (b bv : Nat) (T : TypeId) (c0 c1 c2 c3 c4 c5 c6 c7 c8 c9 c10 c11 c12 : Value) (rest : List Value) (h : Blk w b (([c0, c1, c2, c3, c4, c5, c6, c7, c8, c9, c10, c11, c12] : List Value) ++ rest).toArray T) :
 Calls Tryz.prog 206 #[.pointer (some ⟨b, 0, none⟩), .iface 129 (.pointer (some ⟨bv, 0, none⟩))] w fun e w' => e = .returned (.tuple #[]) ∧ Blk w' b (([c0, c1, c2, c3, c4, c5, c6, c7, c8, c9, c10, c11, c12] : List Value) ++ rest).toArray T ∧ Oth b w w' := by
 go_enter func206, ntmps206
 go_upto_region 0 with fail
 refine pS [_] ?_
 go_upto_region 1 with fail
 refine pS [.tuple #[.pointer none, .bool false], .bool false, .pointer none] ?_
 go_upto_region 4 with fail
 refine pS [.tuple #[.pointer none, .bool false], .bool false, .pointer none] ?_
 go_upto_region 7 with fail
 refine pS [.tuple #[.pointer none, .bool false], .bool false, .pointer none] ?_
 go_upto_region 10 with fail
 refine pS [.tuple #[.pointer none, .bool false], .bool false, .pointer none] ?_
 go_upto_region 13 with fail
 refine pS [.tuple #[.pointer none, .bool false], .bool false, .pointer none] ?_
 go_upto_region 16 with fail
 refine pS [.tuple #[.pointer none, .bool false], .bool false, .pointer none] ?_
 go_upto_region 19 with fail
 refine pS [.tuple #[.pointer none, .bool false], .bool false, .pointer none] ?_
 go_upto_region 22 with fail
 refine pS [.tuple #[.pointer none, .bool false], .bool false, .pointer none] ?_
 go_upto_region 25 with fail
 refine pS [.tuple #[.pointer none, .bool false], .bool false, .pointer none] ?_
 go_upto_region 28 with fail
 refine pS [.tuple #[.pointer none, .bool false], .bool false, .pointer none] ?_
 go_upto_region 31 with fail
 refine pS [.tuple #[.pointer none, .bool false], .bool false, .pointer none] ?_
 go_wp2
 go_end0
 exact ⟨rfl, h, ⟨rfl, rfl, rfl, rfl, fun _ _ => rfl⟩⟩
theorem setRef_t8 (w : World) (b bv : Nat) (T : TypeId) (c0 c1 c2 c3 c4 c5 c6 c7 c8 c9 c10 c11 c12 : Value) (rest : List Value) (h : Blk w b (([c0, c1, c2, c3, c4, c5, c6, c7, c8, c9, c10, c11, c12] : List Value) ++ rest).toArray T) :
 Calls Tryz.prog 206 #[.pointer (some ⟨b, 0, none⟩), .iface 96 (.pointer (some ⟨bv, 0, none⟩))] w fun e w' => e = .returned (.tuple #[]) ∧ Blk w' b (([c0, c1, c2, c3, c4, c5, c6, .pointer (some ⟨bv, 0, none⟩), c8, c9, c10, c11, c12] : List Value) ++ rest).toArray T ∧ Oth b w w' := by
 go_enter func206, ntmps206
 go_upto_region 0 with fail
 refine pS [_] ?_
 go_upto_region 1 with fail
 refine pS [.tuple #[.pointer none, .bool false], .bool false, .pointer none] ?_
 go_upto_region 4 with fail
 refine pS [.tuple #[.pointer none, .bool false], .bool false, .pointer none] ?_
 go_upto_region 7 with fail
 refine pS [.tuple #[.pointer none, .bool false], .bool false, .pointer none] ?_
 go_upto_region 10 with fail
 refine pS [.tuple #[.pointer none, .bool false], .bool false, .pointer none] ?_
 go_upto_region 13 with fail
 refine pS [.tuple #[.pointer none, .bool false], .bool false, .pointer none] ?_
 go_upto_region 16 with fail
 refine pS [.tuple #[.pointer none, .bool false], .bool false, .pointer none] ?_
 go_upto_region 19 with fail
 refine pS [.tuple #[.pointer none, .bool false], .bool false, .pointer none] ?_
 go_upto_region 22 with fail
 refine pS [.tuple #[.pointer none, .bool false], .bool false, .pointer none] ?_
 go_upto_region 25 with fail
 refine pS [.tuple #[.pointer (some ⟨bv, 0, none⟩), .bool true], .bool true, .pointer (some ⟨bv, 0, none⟩)] ?_
 go_upto_region 26 with fail
 refine pS [_] ?_
 go_upto_region 27 with fail
 refine pR [_, _, .pointer (some ⟨b, 0, none⟩), .pointer (some ⟨b, 7, none⟩)] ?_
 refine cA 96 b 7 [.pointer (some ⟨bv, 0, none⟩)] (([c0, c1, c2, c3, c4, c5, c6, .pointer (some ⟨bv, 0, none⟩), c8, c9, c10, c11, c12] : List Value) ++ rest).toArray T h ?_
 intro w1 h' hO1
 clear h
 have h := h'
 clear h'
 have hzz1 := hO1.size
 replace hO1 := Lib.hid hO1
 refine wN ?_
 go_wp2
 go_end0
 exact ⟨rfl, h, hO1.out⟩
theorem setRef_t9 (w : World) (b bv : Nat) (T : TypeId) (c0 c1 c2 c3 c4 c5 c6 c7 c8 c9 c10 c11 c12 : Value) (rest : List Value) (h : Blk w b (([c0, c1, c2, c3, c4, c5, c6, c7, c8, c9, c10, c11, c12] : List Value) ++ rest).toArray T) :
 Calls Tryz.prog 206 #[.pointer (some ⟨b, 0, none⟩), .iface 90 (.pointer (some ⟨bv, 0, none⟩))] w fun e w' => e = .returned (.tuple #[]) ∧ Blk w' b (([c0, .pointer (some ⟨bv, 0, none⟩), c2, c3, c4, c5, c6, c7, c8, c9, c10, c11, c12] : List Value) ++ rest).toArray T ∧ Oth b w w' := by
 go_enter func206, ntmps206
 go_upto_region 0 with fail
 refine pS [_] ?_
 go_upto_region 1 with fail
 refine pS [.tuple #[.pointer (some ⟨bv, 0, none⟩), .bool true], .bool true, .pointer (some ⟨bv, 0, none⟩)] ?_
 go_upto_region 2 with fail
 refine pS [_] ?_
 go_upto_region 3 with fail
 refine pR [_, _, .pointer (some ⟨b, 0, none⟩), .pointer (some ⟨b, 1, none⟩)] ?_
 refine cA 90 b 1 [.pointer (some ⟨bv, 0, none⟩)] (([c0, .pointer (some ⟨bv, 0, none⟩), c2, c3, c4, c5, c6, c7, c8, c9, c10, c11, c12] : List Value) ++ rest).toArray T h ?_
 intro w1 h' hO1
 clear h
 have h := h'
 clear h'
 have hzz1 := hO1.size
 replace hO1 := Lib.hid hO1
 refine wN ?_
 go_wp2
 go_end0
 exact ⟨rfl, h, hO1.out⟩
theorem setRef_t10 (w : World) (b bv : Nat) (T : TypeId) (c0 c1 c2 c3 c4 c5 c6 c7 c8 c9 c10 c11 c12 : Value) (rest : List Value) (h : Blk w b (([c0, c1, c2, c3, c4, c5, c6, c7, c8, c9, c10, c11, c12] : List Value) ++ rest).toArray T) :
 Calls Tryz.prog 206 #[.pointer (some ⟨b, 0, none⟩), .iface 97 (.pointer (some ⟨bv, 0, none⟩))] w fun e w' => e = .returned (.tuple #[]) ∧ Blk w' b (([c0, c1, c2, c3, c4, c5, c6, c7, .pointer (some ⟨bv, 0, none⟩), c9, c10, c11, c12] : List Value) ++ rest).toArray T ∧ Oth b w w' := by
 go_enter func206, ntmps206
 go_upto_region 0 with fail
 refine pS [_] ?_
 go_upto_region 1 with fail
 refine pS [.tuple #[.pointer none, .bool false], .bool false, .pointer none] ?_
 go_upto_region 4 with fail
 refine pS [.tuple #[.pointer none, .bool false], .bool false, .pointer none] ?_
 go_upto_region 7 with fail
 refine pS [.tuple #[.pointer none, .bool false], .bool false, .pointer none] ?_
 go_upto_region 10 with fail
 refine pS [.tuple #[.pointer none, .bool false], .bool false, .pointer none] ?_
 go_upto_region 13 with fail
 refine pS [.tuple #[.pointer none, .bool false], .bool false, .pointer none] ?_
 go_upto_region 16 with fail
 refine pS [.tuple #[.pointer none, .bool false], .bool false, .pointer none] ?_
 go_upto_region 19 with fail
 refine pS [.tuple #[.pointer none, .bool false], .bool false, .pointer none] ?_
 go_upto_region 22 with fail
 refine pS [.tuple #[.pointer none, .bool false], .bool false, .pointer none] ?_
 go_upto_region 25 with fail
 refine pS [.tuple #[.pointer none, .bool false], .bool false, .pointer none] ?_
 go_upto_region 28 with fail
 refine pS [.tuple #[.pointer (some ⟨bv, 0, none⟩), .bool true], .bool true, .pointer (some ⟨bv, 0, none⟩)] ?_
 go_upto_region 29 with fail
 refine pS [_] ?_
 go_upto_region 30 with fail
 refine pR [_, _, .pointer (some ⟨b, 0, none⟩), .pointer (some ⟨b, 8, none⟩)] ?_
 refine cA 97 b 8 [.pointer (some ⟨bv, 0, none⟩)] (([c0, c1, c2, c3, c4, c5, c6, c7, .pointer (some ⟨bv, 0, none⟩), c9, c10, c11, c12] : List Value) ++ rest).toArray T h ?_
 intro w1 h' hO1
 clear h
 have h := h'
 clear h'
 have hzz1 := hO1.size
 replace hO1 := Lib.hid hO1
 refine wN ?_
 go_wp2
 go_end0
 exact ⟨rfl, h, hO1.out⟩
theorem setRef_t11 (w : World) (b bv : Nat) (T : TypeId) (c0 c1 c2 c3 c4 c5 c6 c7 c8 c9 c10 c11 c12 : Value) (rest : List Value) (h : Blk w b (([c0, c1, c2, c3, c4, c5, c6, c7, c8, c9, c10, c11, c12] : List Value) ++ rest).toArray T) :
 Calls Tryz.prog 206 #[.pointer (some ⟨b, 0, none⟩), .iface 98 (.pointer (some ⟨bv, 0, none⟩))] w fun e w' => e = .returned (.tuple #[]) ∧ Blk w' b (([c0, c1, c2, c3, c4, c5, c6, c7, c8, .pointer (some ⟨bv, 0, none⟩), c10, c11, c12] : List Value) ++ rest).toArray T ∧ Oth b w w' := by
 go_enter func206, ntmps206
 go_upto_region 0 with fail
 refine pS [_] ?_
 go_upto_region 1 with fail
 refine pS [.tuple #[.pointer none, .bool false], .bool false, .pointer none] ?_
 go_upto_region 4 with fail
 refine pS [.tuple #[.pointer none, .bool false], .bool false, .pointer none] ?_
 go_upto_region 7 with fail
 refine pS [.tuple #[.pointer none, .bool false], .bool false, .pointer none] ?_
 go_upto_region 10 with fail
 refine pS [.tuple #[.pointer none, .bool false], .bool false, .pointer none] ?_
 go_upto_region 13 with fail
 refine pS [.tuple #[.pointer none, .bool false], .bool false, .pointer none] ?_
 go_upto_region 16 with fail
 refine pS [.tuple #[.pointer none, .bool false], .bool false, .pointer none] ?_
 go_upto_region 19 with fail
 refine pS [.tuple #[.pointer (some ⟨bv, 0, none⟩), .bool true], .bool true, .pointer (some ⟨bv, 0, none⟩)] ?_
 go_upto_region 20 with fail
 refine pS [_] ?_
 go_upto_region 21 with fail
 refine pR [_, _, .pointer (some ⟨b, 0, none⟩), .pointer (some ⟨b, 9, none⟩)] ?_
 refine cA 98 b 9 [.pointer (some ⟨bv, 0, none⟩)] (([c0, c1, c2, c3, c4, c5, c6, c7, c8, .pointer (some ⟨bv, 0, none⟩), c10, c11, c12] : List Value) ++ rest).toArray T h ?_
 intro w1 h' hO1
 clear h
 have h := h'
 clear h'
 have hzz1 := hO1.size
 replace hO1 := Lib.hid hO1
 refine wN ?_
 go_wp2
 go_end0
 exact ⟨rfl, h, hO1.out⟩
theorem setRef_t12 (w : World) (b bv : Nat) (T : TypeId) (c0 c1 c2 c3 c4 c5 c6 c7 c8 c9 c10 c11 c12 : Value) (rest : List Value) (h : Blk w b (([c0, c1, c2, c3, c4, c5, c6, c7, c8, c9, c10, c11, c12] : List Value) ++ rest).toArray T) :
 Calls Tryz.prog 206 #[.pointer (some ⟨b, 0, none⟩), .iface 99 (.pointer (some ⟨bv, 0, none⟩))] w fun e w' => e = .returned (.tuple #[]) ∧ Blk w' b (([c0, c1, c2, c3, c4, c5, c6, c7, c8, c9, .pointer (some ⟨bv, 0, none⟩), c11, c12] : List Value) ++ rest).toArray T ∧ Oth b w w' := by
 go_enter func206, ntmps206
 go_upto_region 0 with fail
 refine pS [_] ?_
 go_upto_region 1 with fail
 refine pS [.tuple #[.pointer none, .bool false], .bool false, .pointer none] ?_
 go_upto_region 4 with fail
 refine pS [.tuple #[.pointer none, .bool false], .bool false, .pointer none] ?_
 go_upto_region 7 with fail
 refine pS [.tuple #[.pointer none, .bool false], .bool false, .pointer none] ?_
 go_upto_region 10 with fail
 refine pS [.tuple #[.pointer none, .bool false], .bool false, .pointer none] ?_
 go_upto_region 13 with fail
 refine pS [.tuple #[.pointer none, .bool false], .bool false, .pointer none] ?_
 go_upto_region 16 with fail
 refine pS [.tuple #[.pointer none, .bool false], .bool false, .pointer none] ?_
 go_upto_region 19 with fail
 refine pS [.tuple #[.pointer none, .bool false], .bool false, .pointer none] ?_
 go_upto_region 22 with fail
 refine pS [.tuple #[.pointer (some ⟨bv, 0, none⟩), .bool true], .bool true, .pointer (some ⟨bv, 0, none⟩)] ?_
 go_upto_region 23 with fail
 refine pS [_] ?_
 go_upto_region 24 with fail
 refine pR [_, _, .pointer (some ⟨b, 0, none⟩), .pointer (some ⟨b, 10, none⟩)] ?_
 refine cA 99 b 10 [.pointer (some ⟨bv, 0, none⟩)] (([c0, c1, c2, c3, c4, c5, c6, c7, c8, c9, .pointer (some ⟨bv, 0, none⟩), c11, c12] : List Value) ++ rest).toArray T h ?_
 intro w1 h' hO1
 clear h
 have h := h'
 clear h'
 have hzz1 := hO1.size
 replace hO1 := Lib.hid hO1
 refine wN ?_
 go_wp2
 go_end0
 exact ⟨rfl, h, hO1.out⟩
theorem setRef_t13 (w : World) (b bv : Nat) (T : TypeId) (c0 c1 c2 c3 c4 c5 c6 c7 c8 c9 c10 c11 c12 : Value) (rest : List Value) (h : Blk w b (([c0, c1, c2, c3, c4, c5, c6, c7, c8, c9, c10, c11, c12] : List Value) ++ rest).toArray T) :
 Calls Tryz.prog 206 #[.pointer (some ⟨b, 0, none⟩), .iface 155 (.pointer (some ⟨bv, 0, none⟩))] w fun e w' => e = .returned (.tuple #[]) ∧ Blk w' b (([c0, c1, c2, c3, c4, c5, c6, c7, c8, c9, c10, c11, c12] : List Value) ++ rest).toArray T ∧ Oth b w w' := by
 go_enter func206, ntmps206
 go_upto_region 0 with fail
 refine pS [_] ?_
 go_upto_region 1 with fail
 refine pS [.tuple #[.pointer none, .bool false], .bool false, .pointer none] ?_
 go_upto_region 4 with fail
 refine pS [.tuple #[.pointer none, .bool false], .bool false, .pointer none] ?_
 go_upto_region 7 with fail
 refine pS [.tuple #[.pointer none, .bool false], .bool false, .pointer none] ?_
 go_upto_region 10 with fail
 refine pS [.tuple #[.pointer none, .bool false], .bool false, .pointer none] ?_
 go_upto_region 13 with fail
 refine pS [.tuple #[.pointer none, .bool false], .bool false, .pointer none] ?_
 go_upto_region 16 with fail
 refine pS [.tuple #[.pointer none, .bool false], .bool false, .pointer none] ?_
 go_upto_region 19 with fail
 refine pS [.tuple #[.pointer none, .bool false], .bool false, .pointer none] ?_
 go_upto_region 22 with fail
 refine pS [.tuple #[.pointer none, .bool false], .bool false, .pointer none] ?_
 go_upto_region 25 with fail
 refine pS [.tuple #[.pointer none, .bool false], .bool false, .pointer none] ?_
 go_upto_region 28 with fail
 refine pS [.tuple #[.pointer none, .bool false], .bool false, .pointer none] ?_
 go_upto_region 31 with fail
 refine pS [.tuple #[.pointer none, .bool false], .bool false, .pointer none] ?_
 go_wp2
 go_end0
 exact ⟨rfl, h, ⟨rfl, rfl, rfl, rfl, fun _ _ => rfl⟩⟩
theorem setRef_t14 (w : World) (b bv : Nat) (T : TypeId) (c0 c1 c2 c3 c4 c5 c6 c7 c8 c9 c10 c11 c12 : Value) (rest : List Value) (h : Blk w b (([c0, c1, c2, c3, c4, c5, c6, c7, c8, c9, c10, c11, c12] : List Value) ++ rest).toArray T) :
 Calls Tryz.prog 206 #[.pointer (some ⟨b, 0, none⟩), .iface 157 (.pointer (some ⟨bv, 0, none⟩))] w fun e w' => e = .returned (.tuple #[]) ∧ Blk w' b (([c0, c1, c2, c3, c4, c5, c6, c7, c8, c9, c10, c11, c12] : List Value) ++ rest).toArray T ∧ Oth b w w' := by
 go_enter func206, ntmps206
 go_upto_region 0 with fail
 refine pS [_] ?_
 go_upto_region 1 with fail
 refine pS [.tuple #[.pointer none, .bool false], .bool false, .pointer none] ?_
 go_upto_region 4 with fail
 refine pS [.tuple #[.pointer none, .bool false], .bool false, .pointer none] ?_
 go_upto_region 7 with fail
 refine pS [.tuple #[.pointer none, .bool false], .bool false, .pointer none] ?_
 go_upto_region 10 with fail
 refine pS [.tuple #[.pointer none, .bool false], .bool false, .pointer none] ?_
 go_upto_region 13 with fail
 refine pS [.tuple #[.pointer none, .bool false], .bool false, .pointer none] ?_
 go_upto_region 16 with fail
 refine pS [.tuple #[.pointer none, .bool false], .bool false, .pointer none] ?_
 go_upto_region 19 with fail
 refine pS [.tuple #[.pointer none, .bool false], .bool false, .pointer none] ?_
 go_upto_region 22 with fail
 refine pS [.tuple #[.pointer none, .bool false], .bool false, .pointer none] ?_
 go_upto_region 25 with fail
 refine pS [.tuple #[.pointer none, .bool false], .bool false, .pointer none] ?_
 go_upto_region 28 with fail
 refine pS [.tuple #[.pointer none, .bool false], .bool false, .pointer none] ?_
 go_upto_region 31 with fail
 refine pS [.tuple #[.pointer none, .bool false], .bool false, .pointer none] ?_
 go_wp2
 go_end0
 exact ⟨rfl, h, ⟨rfl, rfl, rfl, rfl, fun _ _ => rfl⟩⟩
end Go.Proofs.YtfcllhdhfenmcaaGreatDoor
