/- Part 9 of the proof: laws and walks (merged by a program). -/
import Derived.Test.YtfcllhdhfenmcaaGreatDoorK01
import Derived.Test.YtfcllhdhfenmcaaGreatDoorK03
import Derived.Test.YtfcllhdhfenmcaaGreatDoorK06
import Derived.Test.YtfcllhdhfenmcaaGreatDoorK07
import Derived.Test.YtfcllhdhfenmcaaGreatDoorK08
import Derived.Laws.AppendOwn
import Derived.Laws.AppendOwnNone
import Derived.Laws.OwnMore
set_option linter.all false
set_option maxHeartbeats 8000000
set_option maxRecDepth 100000
namespace Go.Proofs.YtfcllhdhfenmcaaGreatDoor
open Go.RowKit Go.Proofs.Tryz
theorem isHead_t9 (cs : Array Value) (x : Hd) (w : World) (h : HdR w cs x) (ht : x.t = 9) :
 Calls Tryz.prog 20 #[.agg cs] w fun e w' => e = .returned (.bool (isHeadB x)) ∧ Below w.heap.size w w' := by
 have HE : Hid (isHeadB x = (equalB x.proto SIPB && equalB x.ver v20B && isWordB x.tr && isHostB x.host && decide (0 ≤ x.port ∧ x.port ≤ 65535) && isParamsB x.ps false)) := by unfold Hid isHeadB; rw [ht]; rfl
 have q1 : addressed 9 = false := by decide
 have q2 : routed 9 = false := by decide
 have q3 : numbered 9 = false := by decide
 have HR := Lib.hid h
 obtain ⟨hsz, e0, ⟨v1, e1, r1⟩, ⟨v2, e2, r2⟩, ⟨v3, e3, r3⟩, hu, ⟨v14, e14, r14⟩, e15, ⟨v16, e16, r16⟩, ⟨v17, e17, r17⟩, ⟨v18, e18, r18⟩, ⟨v19, e19, r19⟩, e20, _, _, nlo, nhi, plo, phi⟩ := h
 have HZ := Lib.hid hsz; clear hsz
 obtain ⟨a1, b1, rfl⟩ := r1.shape
 obtain ⟨a2, b2, rfl⟩ := r2.shape
 obtain ⟨a3, b3, rfl⟩ := r3.shape
 obtain ⟨a14, b14, rfl⟩ := r14.shape
 obtain ⟨a16, b16, rfl⟩ := r16.shape
 obtain ⟨a17, b17, rfl⟩ := r17.shape
 obtain ⟨a18, b18, rfl⟩ := r18.shape
 obtain ⟨a19, b19, rfl⟩ := r19.shape
 have hB := below_alloc w (.cells cs 34)
 replace r1 := r1.alloc (.cells cs 34)
 replace r2 := r2.alloc (.cells cs 34)
 replace r3 := r3.alloc (.cells cs 34)
 replace r14 := r14.alloc (.cells cs 34)
 replace r16 := r16.alloc (.cells cs 34)
 replace r17 := r17.alloc (.cells cs 34)
 replace r18 := r18.alloc (.cells cs 34)
 replace r19 := r19.alloc (.cells cs 34)
 have hUB := Lib.hid (HR.out.uri.alloc (.cells cs 34))
 clear hu
 rw [ht] at e0
 clear ht
 go_enter func20, ntmps20
 go_wp2_with (first | (go_at_call 42; refine (isAddressed_c _ _).mono ?_; rintro e w1 ⟨rfl, rfl⟩) | (go_at_call 44; refine (isRouted_c _ _).mono ?_; rintro e w1 ⟨rfl, rfl⟩) | (go_at_call 45; refine (isNumbered_c _ _).mono ?_; rintro e w1 ⟨rfl, rfl⟩) | (go_at_call 17; (first | (refine (is_c _ x.proto ⟨#[83, 73, 80]⟩ _ r16 (by decide)).mono ?_) | (refine (is_c _ x.ver ⟨#[50, 46, 48]⟩ _ r17 (by decide)).mono ?_)); rintro e w1 ⟨rfl, hb1⟩; obtain ⟨hc, hf⟩ := bcell hb1; have hz : w.heap.size < w1.heap.size := (by (have hq := hb1.size; (try simp only [World.size_alloc] at hq); omega)); replace r14 := r14.grow hb1; replace r17 := r17.grow hb1; replace r18 := r18.grow hb1; replace r19 := r19.grow hb1; replace hB := bt2 hB hb1) | (go_at_call 28; refine (isWord_c _ x.tr _ r18).mono ?_; rintro e w1 ⟨rfl, rfl⟩) | (go_at_call 38; refine (isHost_c _ x.host _ r19).mono ?_; rintro e w1 ⟨rfl, rfl⟩) | (go_at_call 40; refine (isParams_c _ x.ps _ _ r14).mono ?_; rintro e w1 ⟨rfl, n, rfl⟩; replace hB := bt2 hB (below_drewN _ n)))
 all_goals (go_ret; refine ⟨ret_bool ?_, by first | exact hB | simpa only [World.drewN_drewN] using hB⟩; rw [HE.out])
 all_goals (clear HE)
 all_goals (first | rfl | (go_light; (try simp only [SIPB, v20B]); grind))
theorem isHead_other (cs : Array Value) (x : Hd) (w : World) (h : HdR w cs x) (ht : x.t < 0 ∨ 14 < x.t) :
 Calls Tryz.prog 20 #[.agg cs] w fun e w' => e = .returned (.bool (isHeadB x)) ∧ Below w.heap.size w w' := by
 have HE : Hid (isHeadB x = false) := by
  unfold Hid isHeadB addressed routed numbered
  rw [if_neg (by omega), if_neg (by simp; omega), if_neg (by simp; omega), if_neg (by omega), if_neg (by simp; omega), if_neg (by omega), if_neg (by omega), if_neg (by omega), if_neg (by omega)]
 have q1 : addressed x.t = false := decide_eq_false (by omega)
 have q2 : routed x.t = false := decide_eq_false (by omega)
 have q3 : numbered x.t = false := decide_eq_false (by omega)
 have n0 : (x.t == 0) = false := beq_eq_false_iff_ne.2 (by omega)
 have n4 : (x.t == 4) = false := beq_eq_false_iff_ne.2 (by omega)
 have n5 : (x.t == 5) = false := beq_eq_false_iff_ne.2 (by omega)
 have n6 : (x.t == 6) = false := beq_eq_false_iff_ne.2 (by omega)
 have n9 : (x.t == 9) = false := beq_eq_false_iff_ne.2 (by omega)
 have n10 : (x.t == 10) = false := beq_eq_false_iff_ne.2 (by omega)
 have e0 := h.t
 have hB := below_alloc w (.cells cs 34)
 clear ht h
 go_enter func20, ntmps20
 go_wp2_with (first | (go_at_call 42; refine (isAddressed_c _ _).mono ?_; rintro e w1 ⟨rfl, rfl⟩) | (go_at_call 44; refine (isRouted_c _ _).mono ?_; rintro e w1 ⟨rfl, rfl⟩) | (go_at_call 45; refine (isNumbered_c _ _).mono ?_; rintro e w1 ⟨rfl, rfl⟩))
 go_ret
 exact ⟨ret_bool HE.out.symm, hB⟩
theorem isHead_c (cs : Array Value) (x : Hd) (w : World) (h : HdR w cs x) :
 Calls Tryz.prog 20 #[.agg cs] w fun e w' => e = .returned (.bool (isHeadB x)) ∧ Below w.heap.size w w' := by
 by_cases ho : x.t < 0 ∨ 14 < x.t
 ·exact isHead_other cs x w h ho
 ·rcases (show x.t = 0 ∨ x.t = 1 ∨ x.t = 2 ∨ x.t = 3 ∨ x.t = 4 ∨ x.t = 5 ∨ x.t = 6 ∨ x.t = 7 ∨ x.t = 8 ∨ x.t = 9 ∨ x.t = 10 ∨ x.t = 11 ∨ x.t = 12 ∨ x.t = 13 ∨ x.t = 14 by omega) with q | q | q | q | q | q | q | q | q | q | q | q | q | q | q
  ·exact isHead_t0 cs x w h q
  ·exact isHead_t1 cs x w h q
  ·exact isHead_t2 cs x w h q
  ·exact isHead_t3 cs x w h q
  ·exact isHead_t4 cs x w h q
  ·exact isHead_t5 cs x w h q
  ·exact isHead_t6 cs x w h q
  ·exact isHead_t7 cs x w h q
  ·exact isHead_t8 cs x w h q
  ·exact isHead_t9 cs x w h q
  ·exact isHead_t10 cs x w h q
  ·exact isHead_t11 cs x w h q
  ·exact isHead_t12 cs x w h q
  ·exact isHead_t13 cs x w h q
  ·exact isHead_t14 cs x w h q
def bvals (l : By) : List Value := l.map fun c => Value.int .u8 c.toNat
theorem bvals_length (l : By) : (bvals l).length = l.length := by simp [bvals]
theorem bvals_append (l m : By) : bvals (l ++ m) = bvals l ++ bvals m := by simp [bvals]
theorem bvals_get (l : By) (i : Nat) (h : i < l.length) : (bvals l)[i]? = some (.int .u8 (ga l i)) := by
 rw [ga_get _ _ h]
 simp [bvals, h]
theorem bcells_list (l : By) : bcells l = (bvals l).toArray := rfl
def Ow (base : Nat) (w : World) (v : Value) (l : By) : Prop := w.ownsRow base 5 1 v l.length (bvals l)
theorem ow_nil (base : Nat) (w : World) : Ow base w (.slice none 0 0) [] := ⟨by simp [bvals], .inl ⟨rfl, rfl⟩⟩
theorem ow_lit (base : Nat) (w : World) (l : By) (hb : base ≤ w.heap.size) (hl : l.length ≤ 9223372036854775807) (C : Array Value) (hC : C = bcells l) :
 Ow base (w.alloc (.cells C 5)) (.slice (some ⟨w.heap.size, 0, none⟩) l.length l.length) l := by
 subst hC
 refine ⟨by simp [bvals], .inr ⟨w.heap.size, l.length, bcells l, rfl, hb, heap_alloc_new w _, Nat.le_refl _, by unfold maxLen; omega, by simp [bcells], ?_⟩⟩
 rw [bcells_list]
 simp only [Nat.mul_one]
 exact List.take_of_length_le (by simp [bvals])
theorem Ow.bs {base : Nat} {w : World} {v : Value} {l : By} (h : Ow base w v l) : Bs w v l := by
 obtain ⟨hl, h | ⟨g, cap, cur, rfl, hb, hh, h1, h2, h3, h4⟩⟩ := h
 ·obtain ⟨rfl, h0⟩ := h
  have : l = [] := List.eq_nil_of_length_eq_zero h0
  subst this
  exact bs_nil w
 ·refine ⟨_, cap, rfl, h1, by unfold maxLen at h2; omega, fun h0 => ⟨g, 0, rfl, (Array.getElem?_eq_some_iff.1 hh).1, fun i hi => ?_⟩⟩
  rw [cell_of_row _ _ _ cur _ _ hh, Nat.zero_add]
  have := bvals_get l i hi
  rw [← h4, List.getElem?_take_of_lt (by omega)] at this
  simpa using this
theorem Ow.grow {base : Nat} {w w' : World} {v : Value} {l : By} (h : Ow base w v l) (hb : Below w.heap.size w w') : Ow base w' v l := by
 obtain ⟨hl, h | ⟨g, cap, cur, rfl, hb', hh, r⟩⟩ := h
 ·exact ⟨hl, .inl h⟩
 ·exact ⟨hl, .inr ⟨g, cap, cur, rfl, hb', (hb.block g (Array.getElem?_eq_some_iff.1 hh).1).trans hh, r⟩⟩
theorem Ow.alloc {base : Nat} {w : World} {v : Value} {l : By} (h : Ow base w v l) (o : Obj) : Ow base (w.alloc o) v l := h.grow (below_alloc w o)
theorem Ow.drew {base : Nat} {w : World} {v : Value} {l : By} (h : Ow base w v l) : Ow base w.drew v l := h.grow ⟨rfl, rfl, rfl, Nat.le_refl _, fun _ _ => rfl⟩
theorem Ow.base_le {base : Nat} {w : World} {v : Value} {l : By} (h : Ow base w v l) (k : Nat) (hk : v.ownBlock = some k) : base ≤ k := by
 obtain ⟨_, ⟨rfl, _⟩ | ⟨g, cap, cur, rfl, hb, _⟩⟩ := h
 ·simp [Value.ownBlock] at hk
 ·have : g = k := by simpa [Value.ownBlock] using hk
  omega
theorem Ow.one {base : Nat} {w : World} {v : Value} {l : By} (h : Ow base w v l) : ∃ A c, v = .slice A l.length c := by
 obtain ⟨A, c, rfl⟩ := h.bs.shape
 exact ⟨A, c, rfl⟩
theorem infoU8 : (Tryz.prog.info? 5).map (fun i => (i.zero, i.size, i.bytes)) = some (some (.int .u8 0), 1, 1) := by kernel_rfl
theorem run_append_none {P : Program} {w : World} (base : Nat) (t ty e : TypeId) (i : TypeInfo) (size : Nat) (ht : P.underlying t = some (.slice e)) (hi : P.info? e = some i)
 (v : Value) (n : Nat) (xs : List Value) (hown : w.ownsRow base e size v n xs) (c : Nat) :
 (Builtin.append_ #[t, t] ty #[v, .slice none 0 c]).run P w = .ok v w := by
 rcases hown.2 with ⟨rfl, rfl⟩ | ⟨g, cap, cur, rfl, _, _, hnc, _⟩
 ·simp [Builtin.append_, run_underlying ht, sizeOf, typeInfo, hi, Builtin.lenOf, Builtin.firstCells]
 ·simp [Builtin.append_, run_underlying ht, sizeOf, typeInfo, hi, Builtin.lenOf, Builtin.firstCells, hnc, storeCells]
theorem wp_append_bs {o : Oper} {a : Act} {w0 W : World} {K : Act → World → Prop} {Q : Exit → Act → World → Prop} (s x : Operand)
 (ho : o.op = .call { callee := .builtin .append, args := #[s, x], argTypes := #[22, 22] })
 (base : Nat) (v y : Value) (l m : By) (hs : a.eval s = v) (hx : a.eval x = y) (HO : Ow base W v l) (HY : Bs W y m) (HB : Below base w0 W) (hbase : base ≤ W.heap.size)
 (hlen : l.length + m.length ≤ 140737488355328)
 (h : ∀ v1 W1, Ow base W1 v1 (l ++ m) → Below base w0 W1 → W.heap.size ≤ W1.heap.size → W.grownBy W1 v.ownBlock → K (a.put o.dst v1) W1) :
 o.wp Tryz.prog a W K Q := by
 obtain ⟨i0, hi, hzz⟩ := Option.map_eq_some_iff.1 infoU8
 simp only [Prod.mk.injEq] at hzz
 obtain ⟨hz0, hz1, hz2⟩ := hzz
 have HO' := HO
 obtain ⟨A, c, rfl, h1, h2, h3⟩ := HY
 rcases Nat.eq_zero_or_pos m.length with hm | hm
 ·have : m = [] := List.eq_nil_of_length_eq_zero hm
  subst this
  cases A with
  | none =>
    have hrun := run_append_none (P := Tryz.prog) (w := W) base 22 o.type 5 i0 1 underlying22 hi v l.length (bvals l) HO c
    have hx' : a.eval x = .slice none 0 c := hx
    unfold Oper.wp
    simp [execOp, ho, resolve, invoke, builtin, hs, hx', hrun, Result.andThen]
    exact h v W (by simpa using HO) HB (Nat.le_refl _) ⟨rfl, rfl, rfl, Nat.le_refl _, fun _ _ _ => rfl⟩
  | some ad =>
    refine wp_append_own W s x 22 ho base 5 i0 (.int .u8 0) 1 1 underlying22 hi hz0 hz1 hz2 rfl (by decide) v l.length (bvals l) hs HO ad 0 c [] hx rfl (by simp) (by simp) (by unfold maxLen; omega) (by omega) hbase ?_
    intro v1 W1 hown hg _
    exact h v1 W1 (by simpa [Ow] using hown) (HB.grown hg hbase fun k hk => HO'.base_le k hk) hg.size hg
 ·obtain ⟨b, off, rfl, hb, hc⟩ := h3 hm
  refine wp_append_own W s x 22 ho base 5 i0 (.int .u8 0) 1 1 underlying22 hi hz0 hz1 hz2 rfl (by decide) v l.length (bvals l) hs HO ⟨b, off, none⟩ m.length c (bvals m) hx (by simp [bvals]) ?_ ?_ (by unfold maxLen; omega) (by omega) hbase ?_
  ·intro j u hu
   have hj : j < m.length := by
    have := (List.getElem?_eq_some_iff.1 hu).1
    simpa [bvals] using this
   rw [add_none, hc j hj]
   rw [bvals_get m j hj] at hu
   exact hu
  ·intro u hu
   obtain ⟨c', _, rfl⟩ := List.mem_map.1 hu
   rfl
  ·intro v1 W1 hown hg _
   refine h v1 W1 ?_ (HB.grown hg hbase fun k hk => HO'.base_le k hk) hg.size hg
   unfold Ow
   rw [List.length_append, bvals_append]
   exact hown
theorem append_bs {ops : Array Oper} {rest : List Oper} {o : Oper} {a : Act} {w0 W : World} {Q : Exit → Act → World → Prop} (hgd : o.guard = none) (s x : Operand)
 (ho : o.op = .call { callee := .builtin .append, args := #[s, x], argTypes := #[22, 22] })
 (base : Nat) (v y : Value) (l m : By) (hs : a.eval s = v) (hx : a.eval x = y) (HO : Ow base W v l) (HY : Bs W y m) (HB : Below base w0 W) (hbase : base ≤ W.heap.size)
 (hlen : l.length + m.length ≤ 140737488355328)
 (h : ∀ v1 W1, Ow base W1 v1 (l ++ m) → Below base w0 W1 → W.heap.size ≤ W1.heap.size → W.grownBy W1 v.ownBlock → wpList Tryz.prog ops Q rest (a.put o.dst v1) W1) :
 wpList Tryz.prog ops Q (o :: rest) a W :=
 wpList_plain hgd fun _ hK => wp_append_bs s x ho base v y l m hs hx HO HY HB hbase hlen fun v1 W1 h1 h2 h3 h4 => hK _ _ (h v1 W1 h1 h2 h3 h4)
theorem step_append_bs {ops : Array Oper} {o : Oper} {a : Act} {w0 W : World} {K : Act → World → Prop} {Q : Exit → Act → World → Prop} {E : Prop} (hgd : o.guard = none) (s x : Operand)
 (ho : o.op = .call { callee := .builtin .append, args := #[s, x], argTypes := #[22, 22] })
 (base : Nat) (v y : Value) (l m : By) (hs : a.eval s = v) (hx : a.eval x = y) (HO : Ow base W v l) (HY : Bs W y m) (HB : Below base w0 W) (hbase : base ≤ W.heap.size)
 (hlen : l.length + m.length ≤ 140737488355328)
 (h : ∀ v1 W1, Ow base W1 v1 (l ++ m) → Below base w0 W1 → W.heap.size ≤ W1.heap.size → W.grownBy W1 v.ownBlock → K (a.put o.dst v1) W1) :
 if Region.wanted o (yielded ops a.tmps) = true then Oper.wp Tryz.prog o a W K Q else E := by
 have hw : Region.wanted o (yielded ops a.tmps) = true := by simp [Region.wanted, hgd]
 rw [if_pos hw]
 exact wp_append_bs s x ho base v y l m hs hx HO HY HB hbase hlen h
end Go.Proofs.YtfcllhdhfenmcaaGreatDoor
