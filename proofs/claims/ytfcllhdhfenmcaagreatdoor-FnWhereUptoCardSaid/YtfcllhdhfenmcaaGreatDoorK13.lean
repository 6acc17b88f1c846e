/- Part 13 of the proof: laws and walks (merged by a program). -/
import Derived.Test.YtfcllhdhfenmcaaGreatDoorK01
import Derived.Test.YtfcllhdhfenmcaaGreatDoorK03
import Derived.Test.YtfcllhdhfenmcaaGreatDoorK06
import Derived.Test.YtfcllhdhfenmcaaGreatDoorK12
set_option linter.all false
set_option maxHeartbeats 8000000
set_option maxRecDepth 100000
namespace Go.Proofs.YtfcllhdhfenmcaaGreatDoor
open Go.RowKit Go.Proofs.Tryz
def nameL (t : Int) : By :=
 if t = 1 then [84, 111] else if t = 2 then [70, 114, 111, 109] else if t = 3 then [67, 111, 110, 116, 97, 99, 116] else if t = 4 then [67, 97, 108, 108, 45, 73, 68] else
 if t = 5 then [67, 83, 101, 113] else if t = 6 then [77, 97, 120, 45, 70, 111, 114, 119, 97, 114, 100, 115] else if t = 7 then [69, 120, 112, 105, 114, 101, 115] else
 if t = 8 then [67, 111, 110, 116, 101, 110, 116, 45, 76, 101, 110, 103, 116, 104] else if t = 9 then [86, 105, 97] else if t = 10 then [67, 111, 110, 116, 101, 110, 116, 45, 84, 121, 112, 101] else
 if t = 11 then [82, 111, 117, 116, 101] else if t = 12 then [82, 101, 99, 111, 114, 100, 45, 82, 111, 117, 116, 101] else if t = 13 then [82, 101, 102, 101, 114, 45, 84, 111] else
 if t = 14 then [82, 101, 102, 101, 114, 114, 101, 100, 45, 66, 121] else []
theorem nameOf_c (t : Int) (w : World) : Calls Tryz.prog 54 #[.int .i64 t] w fun e w' => e = .returned (.string (mk (nameL t))) ∧ w = w' := by
 by_cases ho : t < 1 ∨ 14 < t
 ·have hn : Hid (nameL t = []) := by
   unfold Hid nameL
   rw [if_neg (by omega), if_neg (by omega), if_neg (by omega), if_neg (by omega), if_neg (by omega), if_neg (by omega), if_neg (by omega), if_neg (by omega), if_neg (by omega), if_neg (by omega), if_neg (by omega), if_neg (by omega), if_neg (by omega), if_neg (by omega)]
  have n1 : (t == 1) = false := beq_eq_false_iff_ne.2 (by omega)
  have n2 : (t == 2) = false := beq_eq_false_iff_ne.2 (by omega)
  have n3 : (t == 3) = false := beq_eq_false_iff_ne.2 (by omega)
  have n4 : (t == 4) = false := beq_eq_false_iff_ne.2 (by omega)
  have n5 : (t == 5) = false := beq_eq_false_iff_ne.2 (by omega)
  have n6 : (t == 6) = false := beq_eq_false_iff_ne.2 (by omega)
  have n7 : (t == 7) = false := beq_eq_false_iff_ne.2 (by omega)
  have n8 : (t == 8) = false := beq_eq_false_iff_ne.2 (by omega)
  have n9 : (t == 9) = false := beq_eq_false_iff_ne.2 (by omega)
  have n10 : (t == 10) = false := beq_eq_false_iff_ne.2 (by omega)
  have n11 : (t == 11) = false := beq_eq_false_iff_ne.2 (by omega)
  have n12 : (t == 12) = false := beq_eq_false_iff_ne.2 (by omega)
  have n13 : (t == 13) = false := beq_eq_false_iff_ne.2 (by omega)
  have n14 : (t == 14) = false := beq_eq_false_iff_ne.2 (by omega)
  clear ho
  go_enter func54, ntmps54
  go_wp2
  go_ret
  exact ⟨by rw [hn.out]; rfl, rfl⟩
 ·rcases (show t = 1 ∨ t = 2 ∨ t = 3 ∨ t = 4 ∨ t = 5 ∨ t = 6 ∨ t = 7 ∨ t = 8 ∨ t = 9 ∨ t = 10 ∨ t = 11 ∨ t = 12 ∨ t = 13 ∨ t = 14 by omega) with rfl | rfl | rfl | rfl | rfl | rfl | rfl | rfl | rfl | rfl | rfl | rfl | rfl | rfl
  all_goals (go_enter func54, ntmps54; go_wp2; go_ret; exact ⟨rfl, rfl⟩)
def valOf (ops : Array Oper) (a : Act) (i : Nat) : Value := match (ops[i]?).bind (·.dst) with
 | some d => a.tmps.getD d undef
 | none => undef
def relOK (md : Region.Mode) (ops : Array Oper) (n : Nat) : Bool :=
 (List.range ops.size).all fun i => match ops[i]? with
  | none => true
  | some o => (match o.dst with
    | none => true
    | some d => decide (d < n) && (List.range ops.size).all fun j => decide (j = i) || (match (ops[j]?).bind (·.dst) with | some d' => decide (d' ≠ d) | none => true))
    && o.after.all fun e => !Region.binds md e || decide (e.on < i)
structure RFr (ops : Array Oper) (a0 a : Act) : Prop where
 size : a.tmps.size = a0.tmps.size
 defers : a.defers = a0.defers
 same : ∀ t, (∀ (i : Nat) o, ops[i]? = some o → o.dst ≠ some t) → a.tmps.getD t undef = a0.tmps.getD t undef
section
variable {P : Program} {ops : Array Oper} {Q : Exit → Act → World → Prop} {md : Region.Mode} {S : World → Prop}
theorem put_tmps (a : Act) (d : Option Nat) (v : Value) : (a.put d v).defers = a.defers ∧ (a.put d v).tmps.size = a.tmps.size ∧ ∀ t, (a.put d v).tmps.getD t undef = if d = some t ∧ t < a.tmps.size then v else a.tmps.getD t undef := by
 cases d with
 | none => exact ⟨rfl, rfl, fun t => by simp [Act.put]⟩
 | some d =>
   refine ⟨rfl, by simp [Act.put], fun t => ?_⟩
   simp only [Act.put, Array.getD_eq_getD_getElem?, Array.getElem?_setIfInBounds]
   by_cases h : d = t
   ·subst h
    by_cases h2 : d < a.tmps.size
    ·simp [h2]
    ·simp [h2]
   ·simp [h]
theorem relOK_at {n i : Nat} {o : Oper} (h : relOK md ops n = true) (hi : ops[i]? = some o) : (∀ d, o.dst = some d → d < n ∧ ∀ j oj, ops[j]? = some oj → j ≠ i → oj.dst ≠ some d) ∧ ∀ e ∈ o.after, Region.binds md e = true → e.on < i := by
 unfold relOK at h
 rw [List.all_eq_true] at h
 have hlt : i < ops.size := (Array.getElem?_eq_some_iff.1 hi).1
 have := h i (List.mem_range.2 hlt)
 rw [hi] at this
 simp only [Bool.and_eq_true] at this
 obtain ⟨h1, h2⟩ := this
 refine ⟨fun d hd => ?_, fun e he hb => ?_⟩
 ·rw [hd] at h1
  simp only [Bool.and_eq_true, decide_eq_true_eq, List.all_eq_true] at h1
  refine ⟨h1.1, fun j oj hj hne hdj => ?_⟩
  have hjl : j < ops.size := (Array.getElem?_eq_some_iff.1 hj).1
  have := h1.2 j (List.mem_range.2 hjl)
  rw [hj] at this
  simp [hne, hdj] at this
 ·rw [Array.all_eq_true] at h2
  obtain ⟨k, hk, rfl⟩ := Array.getElem_of_mem he
  have := h2 k hk
  simpa [hb] using this
def cntL (n : Nat) (L : Array Bool) : Nat := ((List.range n).filter fun i => !L.getD i true).length
def useOK (md : Region.Mode) (ops : Array Oper) : Bool :=
 (List.range (ops.size - 1)).all fun i => (List.range ops.size).any fun j => decide (i < j) && (match ops[j]? with | some o => o.after.any fun e => Region.binds md e && decide (e.on = i) | none => false)
theorem useOK_at {i : Nat} (h : useOK md ops = true) (hi : i < ops.size - 1) : ∃ j o, i < j ∧ ops[j]? = some o ∧ ∃ e ∈ o.after, Region.binds md e = true ∧ e.on = i := by
 unfold useOK at h
 rw [List.all_eq_true] at h
 have := h i (List.mem_range.2 hi)
 rw [List.any_eq_true] at this
 obtain ⟨j, _, hj⟩ := this
 simp only [Bool.and_eq_true, decide_eq_true_eq] at hj
 obtain ⟨hij, hj⟩ := hj
 cases ho : ops[j]? with
 | none => rw [ho] at hj; cases hj
 | some o =>
   rw [ho] at hj
   rw [Array.any_eq_true] at hj
   obtain ⟨k, hk, hq⟩ := hj
   simp only [Bool.and_eq_true, decide_eq_true_eq] at hq
   exact ⟨j, o, hij, ho, _, Array.getElem_mem hk, hq.1, hq.2⟩
theorem wpAnyH_rel (R : Nat → Value → World → Prop) (a0 : Act) (hok : relOK md ops a0.tmps.size = true) (huse : useOK md ops = true) (hpos : decide (0 < ops.size) = true)
 (hM : ∀ i v w w', S w → S w' → Below w.heap.size w w' → R i v w → R i v w')
 (hstep : ∀ (i : Nat) o, ops[i]? = some o → i + 1 < ops.size → ∀ a w, S w → RFr ops a0 a → (∀ e ∈ o.after, Region.binds md e = true → R e.on (valOf ops a e.on) w) →
  ∀ K : Act → World → Prop, (∀ v w', S w' → R i (match o.dst with | some _ => v | none => undef) w' → Below w.heap.size w w' → K (a.put o.dst v) w') → if Region.wanted o (yielded ops a.tmps) = true then o.wp P a w K Q else K (a.put o.dst undef) w)
 (hlast : ∀ o, ops[ops.size - 1]? = some o → ∀ a w, S w → RFr ops a0 a → (∀ i, i + 1 < ops.size → R i (valOf ops a i) w) →
  ∀ K : Act → World → Prop, (∀ v w', S w' → Q .normal (a.put o.dst v) w' → K (a.put o.dst v) w') → if Region.wanted o (yielded ops a.tmps) = true then o.wp P a w K Q else K (a.put o.dst undef) w) :
 ∀ (fuel : Nat) (L : Array Bool) (a : Act) (w : World), L.size = ops.size → L.getD (ops.size - 1) true = false → S w → RFr ops a0 a → (∀ i, L.getD i false = true → R i (valOf ops a i) w) → (∀ (j : Nat) o, L.getD j false = true → ops[j]? = some o → ∀ e ∈ o.after, Region.binds md e = true → L.getD e.on false = true) → cntL ops.size L ≤ fuel → wpAnyH P md ops Q S fuel L a w := by
 have hpos : 0 < ops.size := by simpa using hpos
 have nonempty : ∀ L : Array Bool, L.size = ops.size → L.getD (ops.size - 1) true = false → Region.ready md ops L ≠ [] := by
  intro L hL hl hr
  have all : ∀ i, i < ops.size → L.getD i false = true := by
   intro i
   induction i using Nat.strongRecOn with
   | _ i ih =>
     intro hi
     rcases hb : L.getD i false with _ | _
     ·exfalso
      have hmem : i ∈ Region.ready md ops L := by
       rw [mem_ready]
       refine ⟨?_, ops[i], Array.getElem?_eq_getElem hi, fun e he hbd => ?_⟩
       ·rw [← hb]
        simp [Array.getD, hL, hi]
       ·have := (relOK_at hok (Array.getElem?_eq_getElem hi)).2 e he hbd
        exact ih e.on this (by omega)
      rw [hr] at hmem
      cases hmem
     ·rfl
  have h1 := all (ops.size - 1) (by omega)
  have h2 : L.getD (ops.size - 1) false = L.getD (ops.size - 1) true := by
   have hlt : ops.size - 1 < ops.size := by omega
   simp [Array.getD, hL, hlt]
  rw [h2, hl] at h1
  cases h1
 intro fuel
 induction fuel with
 | zero =>
   intro L a w hL hl hS hF hR hC hc
   exfalso
   unfold cntL at hc
   have : ops.size - 1 ∈ (List.range ops.size).filter fun i => !L.getD i true := by
    rw [List.mem_filter]
    exact ⟨List.mem_range.2 (by omega), by rw [hl]; rfl⟩
   have := List.length_pos_of_mem this
   omega
 | succ fuel ih =>
   intro L a w hL hl hS hF hR hC hc
   refine ⟨fun hr => absurd hr (nonempty L hL hl), fun i hi => ?_⟩
   obtain ⟨h1, o, ho, hall⟩ := mem_ready.1 hi
   have hi' : i < ops.size := (Array.getElem?_eq_some_iff.1 ho).1
   have hLi : i < L.size := by omega
   obtain ⟨hd, _⟩ := relOK_at hok ho
   have cnt1 : cntL ops.size (L.setIfInBounds i true) + 1 ≤ cntL ops.size L := by
    unfold cntL
    have hsub : ((List.range ops.size).filter fun j => !(L.setIfInBounds i true).getD j true) = ((List.range ops.size).filter fun j => !L.getD j true).filter fun j => decide (j ≠ i) := by
     rw [List.filter_filter]
     apply List.filter_congr
     intro j _
     by_cases hji : j = i
     ·subst hji; simp [Array.getD_eq_getD_getElem?, hLi]
     ·simp [Array.getD_eq_getD_getElem?, Array.getElem?_setIfInBounds, Ne.symm hji, hji]
    rw [hsub]
    have hmem : i ∈ (List.range ops.size).filter fun j => !L.getD j true := by
     rw [List.mem_filter]
     exact ⟨List.mem_range.2 hi', by rw [h1]; rfl⟩
    have := (List.length_filter_lt_length_iff_exists (p := fun j => decide (j ≠ i))).2 ⟨i, hmem, by simp⟩
    omega
   by_cases hil : i = ops.size - 1
   ·-- the last: all others have come up
    have allL : ∀ d j, j + d + 1 = ops.size → j + 1 < ops.size → L.getD j false = true := by
     intro d
     induction d using Nat.strongRecOn with
     | _ d ihd =>
       intro j hj hj2
       obtain ⟨k, ok, hjk, hok', e, he, hb, heq⟩ := useOK_at huse (i := j) (by omega)
       have hk : k < ops.size := (Array.getElem?_eq_some_iff.1 hok').1
       by_cases hkl : k = ops.size - 1
       ·subst hkl
        rw [← hil, ho] at hok'
        obtain rfl := Option.some.inj hok'
        have := hall e he hb
        rwa [heq] at this
       ·have := hC k ok (ihd (d - (k - j)) (by omega) k (by omega) (by omega)) hok' e he hb
        rwa [heq] at this
    have hRall : ∀ j, j + 1 < ops.size → R j (valOf ops a j) w := fun j hj => hR j (allL (ops.size - 1 - j) j (by omega) hj)
    have hr0 : Region.ready md ops (L.setIfInBounds i true) = [] := by
     rw [List.eq_nil_iff_forall_not_mem]
     intro j hj
     obtain ⟨q1, oj, q2, _⟩ := mem_ready.1 hj
     have hjl : j < ops.size := (Array.getElem?_eq_some_iff.1 q2).1
     by_cases hji : j = i
     ·subst hji
      simp [Array.getD_eq_getD_getElem?, hLi] at q1
     ·have h3 := allL (ops.size - 1 - j) j (by omega) (by omega)
      simp [Array.getD_eq_getD_getElem?, Array.getElem?_setIfInBounds, Ne.symm hji, hL, hjl] at q1 h3
      rw [q1] at h3
      cases h3
    have := hlast o (by rw [← hil]; exact ho) a w hS hF hRall (fun a' w' => S w' ∧ wpAnyH P md ops Q S fuel (L.setIfInBounds i true) a' w') (fun v w' hS' hq => ⟨hS', by
     cases fuel with
     | zero => exact ⟨hr0, hq⟩
     | succ f => exact ⟨fun _ => hq, by rw [hr0]; simp⟩⟩)
    unfold wpOp
    rw [ho]
    simp only []
    by_cases hw : Region.wanted o (yielded ops a.tmps) = true
    ·rw [if_pos hw] at this ⊢
     exact .inl this
    ·rw [if_neg hw] at this ⊢
     exact this
   have key : ∀ v w', S w' → R i (match o.dst with | some _ => v | none => undef) w' → Below w.heap.size w w' → S w' ∧ wpAnyH P md ops Q S fuel (L.setIfInBounds i true) (a.put o.dst v) w' := by
    intro v w' hS' hR' hm
    obtain ⟨p1, p2, p3⟩ := put_tmps a o.dst v
    refine ⟨hS', ih _ _ _ (by simpa using hL) ?_ hS' ⟨p2.trans hF.size, p1.trans hF.defers, fun t ht => ?_⟩ (fun j hj => ?_) (fun j oj hj hoj e he hb => ?_) (by omega)⟩
    ·rw [show (L.setIfInBounds i true).getD (ops.size - 1) true = L.getD (ops.size - 1) true by simp [Array.getD_eq_getD_getElem?, Array.getElem?_setIfInBounds, hil]]
     exact hl
    ·rw [p3, if_neg (fun h => ht i o ho h.1)]
     exact hF.same t ht
    ·by_cases hji : j = i
     ·subst hji
      have : valOf ops (a.put o.dst v) j = (match o.dst with | some _ => v | none => undef) := by
       unfold valOf
       rw [ho]
       cases hod : o.dst with
       | none => simp [hod]
       | some d =>
         simp only [Option.bind_some, hod]
         have := p3 d
         rw [hod] at this
         rw [this, if_pos ⟨rfl, by rw [hF.size]; exact (hd d hod).1⟩]
      rw [this]
      exact hR'
     ·have hLj : L.getD j false = true := by
       have : (L.setIfInBounds i true).getD j false = L.getD j false := by
        simp [Array.getD_eq_getD_getElem?, Array.getElem?_setIfInBounds, Ne.symm hji]
       rw [this] at hj
       exact hj
      have hv : valOf ops (a.put o.dst v) j = valOf ops a j := by
       unfold valOf
       cases hoj : ops[j]? with
       | none => rfl
       | some oj =>
         simp only [Option.bind_some]
         cases hdj : oj.dst with
         | none => rfl
         | some d =>
           simp only []
           rw [p3, if_neg]
           rintro ⟨e, _⟩
           exact (hd d e).2 j oj hoj hji hdj
      rw [hv]
      exact hM j _ w w' hS hS' hm (hR j hLj)
    ·have up : ∀ k, L.getD k false = true → (L.setIfInBounds i true).getD k false = true := by
      intro k hk
      by_cases hki : k = i
      ·subst hki; simp [Array.getD_eq_getD_getElem?, hLi]
      ·simpa [Array.getD_eq_getD_getElem?, Array.getElem?_setIfInBounds, Ne.symm hki] using hk
     by_cases hji : j = i
     ·subst hji
      rw [ho] at hoj
      obtain rfl := Option.some.inj hoj
      exact up _ (hall e he hb)
     ·have hLj : L.getD j false = true := by
       simpa [Array.getD_eq_getD_getElem?, Array.getElem?_setIfInBounds, Ne.symm hji] using hj
      exact up _ (hC j oj hLj hoj e he hb)
   have := hstep i o ho (by omega) a w hS hF (fun e he hb => hR e.on (hall e he hb)) (fun a' w' => S w' ∧ wpAnyH P md ops Q S fuel (L.setIfInBounds i true) a' w') key
   unfold wpOp
   rw [ho]
   simp only []
   by_cases hw : Region.wanted o (yielded ops a.tmps) = true
   ·rw [if_pos hw] at this ⊢
    exact .inl this
   ·rw [if_neg hw] at this ⊢
    exact this
theorem rep_false (n i : Nat) : ¬ (Array.replicate n false).getD i false = true := by
 simp only [Array.getD_eq_getD_getElem?, Array.getElem?_replicate]
 split <;> simp
def noDst (ops : Array Oper) (t : Nat) : Bool := ops.all fun o => decide (o.dst ≠ some t)
theorem noDst_at {t : Nat} (h : noDst ops t = true) : ∀ (i : Nat) o, ops[i]? = some o → o.dst ≠ some t := by
 intro i o ho
 unfold noDst at h
 rw [Array.all_eq_true] at h
 obtain ⟨hi, rfl⟩ := Array.getElem?_eq_some_iff.1 ho
 simpa using h i hi
theorem ld_run {o : Oper} {a : Act} {w : World} {v : Value} (ty : TypeId) {x : Operand} (ho : o.op = .load ty x) {p : Addr} (hx : a.eval x = .pointer (some p)) {d : TypeDesc} (hu : P.underlying ty = some d)
 (hd : (match d with | .struct _ | .array _ _ => true | _ => false) = false) (hc : w.cell? p = some v) : (execOp a.eval o).run P w = .ok (.value v) w := run_load_cell ho p hx hu hd w hc
theorem st_y {o : Oper} {a : Act} {w : World} {K : Act → World → Prop} {E : Prop} (v : Value) (h : (execOp a.eval o).run P w = .ok (.value v) w) (k : K (a.put o.dst v) w) (hgd : o.guard = none := by rfl) : if Region.wanted o (yielded ops a.tmps) = true then Oper.wp P o a w K Q else E := by
 have hw : Region.wanted o (yielded ops a.tmps) = true := by simp [Region.wanted, hgd]
 rw [if_pos hw]
 unfold Oper.wp
 rw [h, Oper.upon_value]
 exact k
theorem st_p' {o : Oper} {a : Act} {w W : World} {K : Act → World → Prop} {E : Prop} (v : Value) (hgd : o.guard = none) (h : (execOp a.eval o).run P w = .ok (.value v) W) (k : K (a.put o.dst v) W) : if Region.wanted o (yielded ops a.tmps) = true then Oper.wp P o a w K Q else E := by
 have hw : Region.wanted o (yielded ops a.tmps) = true := by simp [Region.wanted, hgd]
 rw [if_pos hw]
 unfold Oper.wp
 rw [h, Oper.upon_value]
 exact k
theorem st_p {o : Oper} {a : Act} {w : World} {K : Act → World → Prop} {E : Prop} (v : Value) (hgd : o.guard = none) (h : (execOp a.eval o).run P w = .ok (.value v) w) (k : K (a.put o.dst v) w) : if Region.wanted o (yielded ops a.tmps) = true then Oper.wp P o a w K Q else E := by
 have hw : Region.wanted o (yielded ops a.tmps) = true := by simp [Region.wanted, hgd]
 rw [if_pos hw]
 unfold Oper.wp
 rw [h, Oper.upon_value]
 exact k
theorem st_conv {o : Oper} {a : Act} {w : World} {K : Act → World → Prop} {E : Prop} (src dst e : TypeId) {x : Operand} (ho : o.op = .convert src dst x) {s : ByteArray} (hx : a.eval x = .string s) (hs : s.size ≤ 4611686018427387904) {u : TypeDesc}
 (h1 : P.underlying src = some u) (h2 : P.underlying dst = some (.slice e)) (h3 : P.underlying e = some (.int .u8)) (k : ∀ v W, Bs W v s.data.toList → Below w.heap.size w W → K (a.put o.dst v) W) (hgd : o.guard = none := by rfl) : if Region.wanted o (yielded ops a.tmps) = true then Oper.wp P o a w K Q else E := by
 obtain ⟨v, W, hr, hb, hB⟩ := to_bytes (P := P) w src dst e s hs h1 h2 h3
 refine st_p' v hgd ?_ (k v W hb hB)
 unfold execOp
 simp only [ho, hx, Sem.run_bind, Sem.run_pure, Result.andThen_ok, hr]
theorem st_build {o : Oper} {a : Act} {w : World} {K : Act → World → Prop} {E : Prop} (ty : TypeId) (xs : Array (Nat × Operand)) (ho : o.op = .build ty xs) (vals : List (Nat × Value)) (hv : xs.toList.map (fun p => (p.1, a.eval p.2)) = vals) (cells : Array Value) (hb : P.built ty vals = some cells)
 (k : K (a.put o.dst (.agg cells)) w) (hgd : o.guard = none := by rfl) : if Region.wanted o (yielded ops a.tmps) = true then Oper.wp P o a w K Q else E := by
 refine st_p' _ hgd ?_ k
 unfold execOp
 simp only [ho]
 have := Go.run_build (P := P) w ty (xs.map fun p => (p.1, a.eval p.2)) cells (by rw [← hb, ← hv]; simp)
 simp only [Sem.run_bind, Sem.run_pure, this, Result.andThen_ok]
end
def Agr (g : Nat) (w w2 : World) : Prop := w.heap.size ≤ w2.heap.size ∧ ∀ k, g ≤ k → k < w.heap.size → w2.heap[k]? = w.heap[k]?
theorem Agr.of {g : Nat} {w w' w2 : World} (hb : Below w.heap.size w w') (h : Agr g w' w2) : Agr g w w2 :=
 ⟨Nat.le_trans hb.size h.1, fun k hk hl => (h.2 k hk (Nat.lt_of_lt_of_le hl hb.size)).trans (hb.block k hl)⟩
theorem Agr.refl (g : Nat) (w : World) : Agr g w w := ⟨Nat.le_refl _, fun _ _ _ => rfl⟩
theorem agr_setRow {g B : Nat} (h : g < B) (w : World) (c : Array Value) : Agr B w (w.setRow g c) := ⟨by rw [setRow_size]; exact Nat.le_refl _, fun k hk _ => setRow_other w g k c (by omega)⟩
theorem Agr.mono {g g' : Nat} {w w2 : World} (h : Agr g w w2) (hg : g ≤ g') : Agr g' w w2 := ⟨h.1, fun k hk => h.2 k (Nat.le_trans hg hk)⟩
theorem Agr.trans {g : Nat} {w w' w2 : World} (h : Agr g w w') (k : Agr g w' w2) : Agr g w w2 := ⟨Nat.le_trans h.1 k.1, fun j hj hl => (k.2 j hj (Nat.lt_of_lt_of_le hl h.1)).trans (h.2 j hj hl)⟩
theorem Agr.below {g : Nat} {w w' : World} (hb : Below w.heap.size w w') : Agr g w w' := Agr.of hb (Agr.refl _ _)
theorem to_bytes_off {P : Program} (w : World) (src dst e : TypeId) (s : ByteArray) (hs : s.size ≤ 4611686018427387904) {u : TypeDesc}
 (h1 : P.underlying src = some u) (h2 : P.underlying dst = some (.slice e)) (h3 : P.underlying e = some (.int .u8)) (g : Nat) (hg : g ≤ w.heap.size) :
 ∃ v W, (convert src dst (.string s)).run P w = .ok v W ∧ (∀ w2, Agr g W w2 → Bs w2 v s.data.toList) ∧ Below w.heap.size w W := by
 refine ⟨_, _, Lib.run_convert_string_bytes w src dst e s h1 h2 h3, fun w2 ha => ?_, bytesWorld_below w e s⟩
 have hl : s.data.toList.length = s.size := by simp
 have hm := grownCap_le_maxLen w s.size 0 e (by unfold maxLen; omega)
 have hz : w.heap.size < (Lib.bytesWorld w e s).heap.size := by rw [Lib.bytesWorld_size]; omega
 refine ⟨some ⟨w.heap.size, 0, none⟩, grownCap w s.size 0 e, by rw [hl], by rw [hl]; exact grownCap_ge w s.size 0 e, by unfold maxLen at hm; omega, fun _ => ⟨w.heap.size, 0, rfl, Nat.lt_of_lt_of_le hz ha.1, fun i hi => ?_⟩⟩
 have h := Lib.bytesWorld_cell w e s i (by omega)
 have h' : w2.cell? ⟨w.heap.size, i, none⟩ = (Lib.bytesWorld w e s).cell? ⟨w.heap.size, i, none⟩ := by
  simp only [World.cell?, ha.2 w.heap.size hg hz]
 rw [Nat.zero_add, h', h]
 rfl
section
variable {P : Program} {ops : Array Oper} {Q : Exit → Act → World → Prop}
theorem step_call_w {o : Oper} {a : Act} {w : World} {K : Act → World → Prop} {E : Prop} (hw : Region.wanted o (yielded ops a.tmps) = true) (f : FuncId) (xs : Array Operand) (ats : Array TypeId) {fn : Func} (hf : P.funcs[f]? = some fn) (hn : (fn.name == "runtime.NumGoroutine") = false) (hb : fn.body.isNone = false)
 (ho : o.op = .call { callee := .value (.func f), args := xs, argTypes := ats }) (vals : Array Value) (hv : xs.map a.eval = vals) {R : Ending → World → Prop} (hc : Calls P f vals w R)
 (h : ∀ e w', R e w' → ∃ v, e = .returned v ∧ K (a.put o.dst v) w') : if Region.wanted o (yielded ops a.tmps) = true then Oper.wp P o a w K Q else E := by
 rw [if_pos hw]
 have h := step_call (P := P) (ops := ops) (Q := Q) (o := { o with guard := none }) (E := False) rfl f xs ats hf hn hb ho vals hv hc h
 rw [if_pos (by simp [Region.wanted])] at h
 exact h
theorem sW {o : Oper} {a : Act} {w : World} {K : Act → World → Prop} {E : Prop} {f : FuncId} {fn : Func} (hf : P.funcs[f]? = some fn) (vals : Array Value) {R : Ending → World → Prop} (hc : Calls P f vals w R)
 (h : ∀ e w', R e w' → ∃ v, e = .returned v ∧ K (a.put o.dst v) w') (hw : Region.wanted o (yielded ops a.tmps) = true := by kernel_rfl) (hn : (fn.name == "runtime.NumGoroutine") = false := by kernel_rfl) (hb : fn.body.isNone = false := by kernel_rfl) {xs : Array Operand} {ats : Array TypeId}
 (ho : o.op = .call { callee := .value (.func f), args := xs, argTypes := ats } := by rfl) (hv : xs.map a.eval = vals := by kernel_rfl) : if Region.wanted o (yielded ops a.tmps) = true then Oper.wp P o a w K Q else E := step_call_w hw f xs ats hf hn hb ho vals hv hc h
theorem st_conv_off {o : Oper} {a : Act} {w : World} {K : Act → World → Prop} {E : Prop} (src dst e : TypeId) {x : Operand} (ho : o.op = .convert src dst x) {s : ByteArray} (hx : a.eval x = .string s) (hs : s.size ≤ 4611686018427387904) {u : TypeDesc}
 (h1 : P.underlying src = some u) (h2 : P.underlying dst = some (.slice e)) (h3 : P.underlying e = some (.int .u8)) (g : Nat) (hg : g ≤ w.heap.size) (k : ∀ v W, (∀ w2, Agr g W w2 → Bs w2 v s.data.toList) → Below w.heap.size w W → K (a.put o.dst v) W) (hgd : o.guard = none := by rfl) : if Region.wanted o (yielded ops a.tmps) = true then Oper.wp P o a w K Q else E := by
 obtain ⟨v, W, hr, hb, hB⟩ := to_bytes_off (P := P) w src dst e s hs h1 h2 h3 g hg
 refine st_p' v hgd ?_ (k v W hb hB)
 unfold execOp
 simp only [ho, hx, Sem.run_bind, Sem.run_pure, Result.andThen_ok, hr]
theorem step_const {o : Oper} {a : Act} {w : World} {K : Act → World → Prop} {E : Prop} (hgd : o.guard = none) (T e : TypeId) (x : Operand) (ho : o.op = .convert T T x) (b n c : Nat) (C : Array Value) (hx : a.eval x = .slice (some ⟨b, 0, none⟩) n c)
 (hT : P.underlying T = some (.slice e)) (he : P.underlying e = some (.int .u8)) (hb : Blk w b C e)
 (h : ∀ W, Oth b w W → W.heap[b]? = some (.cells C e (C.size, C.size + 1)) → K (a.put o.dst (.slice (some ⟨b, 0, none⟩) n c)) W) : if Region.wanted o (yielded ops a.tmps) = true then Oper.wp P o a w K Q else E := by
 have hsh : w.shape? b = some (e, C.size) := by
  unfold World.shape?
  unfold Blk at hb
  rw [hb]
 have hr : (convert T T (.slice (some ⟨b, 0, none⟩) n c)).run P w = .ok (.slice (some ⟨b, 0, none⟩) n c) (w.freeze ⟨b, C.size, none⟩ 1) := by
  simp [convert, run_underlying hT, run_underlying he, markStringish, hsh]
 have hlt := hb.lt
 unfold Blk at hb
 have hO : Oth b w (w.freeze ⟨b, C.size, none⟩ 1) := by
  unfold World.freeze
  rw [if_neg (by decide)]
  exact ⟨rfl, rfl, rfl, by simp, fun k hk => by simp only [Array.getElem?_modify]; rw [if_neg (fun q => hk q.symm)]⟩
 have hH : (w.freeze ⟨b, C.size, none⟩ 1).heap[b]? = some (.cells C e (C.size, C.size + 1)) := by
  unfold World.freeze
  rw [if_neg (by decide)]
  simp only [Array.getElem?_modify, if_pos trivial, hb]
  rfl
 have hw : Region.wanted o (yielded ops a.tmps) = true := by simp [Region.wanted, hgd]
 rw [if_pos hw]
 unfold Oper.wp execOp
 simp only [ho, hx, Sem.run_bind, Sem.run_pure, Result.andThen_ok, hr]
 exact h _ hO hH
end
def Ax (p : Nat → Prop) (w w2 : World) : Prop := w.heap.size ≤ w2.heap.size ∧ ∀ k, ¬ p k → k < w.heap.size → w2.heap[k]? = w.heap[k]?
theorem Ax.refl (p : Nat → Prop) (w : World) : Ax p w w := ⟨Nat.le_refl _, fun _ _ _ => rfl⟩
theorem Ax.of {p : Nat → Prop} {w w' w2 : World} (hb : Below w.heap.size w w') (h : Ax p w' w2) : Ax p w w2 :=
 ⟨Nat.le_trans hb.size h.1, fun k hk hl => (h.2 k hk (Nat.lt_of_lt_of_le hl hb.size)).trans (hb.block k hl)⟩
theorem Ax.oth {p : Nat → Prop} {g : Nat} {w w' w2 : World} (ho : Oth g w w') (hg : p g) (h : Ax p w' w2) : Ax p w w2 :=
 ⟨by rw [← ho.size]; exact h.1, fun k hk hl => (h.2 k hk (by rw [ho.size]; exact hl)).trans (ho.block k (by rintro rfl; exact hk hg))⟩
theorem Ax.mono {p q : Nat → Prop} {w w2 : World} (h : Ax p w w2) (hpq : ∀ k, p k → q k) : Ax q w w2 := ⟨h.1, fun k hk => h.2 k (fun hp => hk (hpq k hp))⟩
theorem Ax.agr {p : Nat → Prop} {g : Nat} {w w2 : World} (h : Ax p w w2) (hp : ∀ k, g ≤ k → k < w.heap.size → ¬ p k) : Agr g w w2 := ⟨h.1, fun k hk hl => h.2 k (hp k hk hl) hl⟩
theorem Ax.trans {p : Nat → Prop} {w w' w2 : World} (h : Ax p w w') (k : Ax p w' w2) : Ax p w w2 := ⟨Nat.le_trans h.1 k.1, fun j hj hl => (k.2 j hj (Nat.lt_of_lt_of_le hl h.1)).trans (h.2 j hj hl)⟩
theorem Ax.below {p : Nat → Prop} {w w' : World} (hb : Below w.heap.size w w') : Ax p w w' := Ax.of hb (Ax.refl _ _)
def BsX (p : Nat → Prop) (w : World) (v : Value) (l : By) : Prop := ∀ w2, Ax p w w2 → Bs w2 v l
theorem BsX.grow {p : Nat → Prop} {w w' : World} {v : Value} {l : By} (h : BsX p w v l) (hb : Below w.heap.size w w') : BsX p w' v l := fun w2 h2 => h w2 (Ax.of hb h2)
theorem BsX.oth {p : Nat → Prop} {g : Nat} {w w' : World} {v : Value} {l : By} (h : BsX p w v l) (ho : Oth g w w') (hg : p g) : BsX p w' v l := fun w2 h2 => h w2 (Ax.oth ho hg h2)
theorem arr21 {α : Type} (cs : Array α) (h : cs.size = 21) : ∃ a0 a1 a2 a3 a4 a5 a6 a7 a8 a9 a10 a11 a12 a13 a14 a15 a16 a17 a18 a19 a20, cs = #[a0, a1, a2, a3, a4, a5, a6, a7, a8, a9, a10, a11, a12, a13, a14, a15, a16, a17, a18, a19, a20] := by
 obtain ⟨l⟩ := cs
 match l, h with
 | [a0, a1, a2, a3, a4, a5, a6, a7, a8, a9, a10, a11, a12, a13, a14, a15, a16, a17, a18, a19, a20], _ => exact ⟨a0, a1, a2, a3, a4, a5, a6, a7, a8, a9, a10, a11, a12, a13, a14, a15, a16, a17, a18, a19, a20, rfl⟩
theorem HdR.lit {w : World} {cs : Array Value} {x : Hd} (h : HdR w cs x) : ∃ A1 c1 A2 c2 A3 c3 A4 c4 A5 c5 A8 c8 A9 c9 A10 c10 A12 c12 A13 c13 A14 c14 A16 c16 A17 c17 A18 c18 A19 c19,
 cs = #[.int .i64 x.t, .slice A1 x.name.length c1, .slice A2 x.text.length c2, .slice A3 x.disp.length c3, .slice A4 x.uri.scheme.length c4, .slice A5 x.uri.raw.length c5, .bool x.uri.star, .bool x.uri.slashes, .slice A8 x.uri.user.length c8, .slice A9 x.uri.pass.length c9, .slice A10 x.uri.host.length c10, .int .i64 x.uri.port, .slice A12 x.uri.ps.length c12, .slice A13 x.uri.hs.length c13, .slice A14 x.ps.length c14, .int .u32 x.num, .slice A16 x.proto.length c16, .slice A17 x.ver.length c17, .slice A18 x.tr.length c18, .slice A19 x.host.length c19, .int .i64 x.port] := by
 obtain ⟨a0, a1, a2, a3, a4, a5, a6, a7, a8, a9, a10, a11, a12, a13, a14, a15, a16, a17, a18, a19, a20, rfl⟩ := arr21 cs h.size
 obtain ⟨v1, e1, r1⟩ := h.name
 obtain ⟨v2, e2, r2⟩ := h.text
 obtain ⟨v3, e3, r3⟩ := h.disp
 obtain ⟨v14, e14, r14⟩ := h.ps
 obtain ⟨v16, e16, r16⟩ := h.proto
 obtain ⟨v17, e17, r17⟩ := h.ver
 obtain ⟨v18, e18, r18⟩ := h.tr
 obtain ⟨v19, e19, r19⟩ := h.host
 have e0 := h.t
 have e15 := h.num
 have e20 := h.port
 have hu := h.uri
 obtain ⟨v4, e4, r4⟩ := hu.scheme
 obtain ⟨v5, e5, r5⟩ := hu.raw
 have e6 := hu.star
 have e7 := hu.slashes
 obtain ⟨v8, e8, r8⟩ := hu.user
 obtain ⟨v9, e9, r9⟩ := hu.pass
 obtain ⟨v10, e10, r10⟩ := hu.host
 have e11 := hu.port
 obtain ⟨v12, e12, r12⟩ := hu.ps
 obtain ⟨v13, e13, r13⟩ := hu.hs
 obtain ⟨A1, c1, rfl⟩ := r1.shape
 obtain ⟨A2, c2, rfl⟩ := r2.shape
 obtain ⟨A3, c3, rfl⟩ := r3.shape
 obtain ⟨A4, c4, rfl⟩ := r4.shape
 obtain ⟨A5, c5, rfl⟩ := r5.shape
 obtain ⟨A8, c8, rfl⟩ := r8.shape
 obtain ⟨A9, c9, rfl⟩ := r9.shape
 obtain ⟨A10, c10, rfl⟩ := r10.shape
 obtain ⟨A12, c12, rfl⟩ := r12.shape
 obtain ⟨A13, c13, rfl⟩ := r13.shape
 obtain ⟨A14, c14, rfl⟩ := r14.shape
 obtain ⟨A16, c16, rfl⟩ := r16.shape
 obtain ⟨A17, c17, rfl⟩ := r17.shape
 obtain ⟨A18, c18, rfl⟩ := r18.shape
 obtain ⟨A19, c19, rfl⟩ := r19.shape
 simp at e0 e1 e2 e3 e4 e5 e6 e7 e8 e9 e10 e11 e12 e13 e14 e15 e16 e17 e18 e19 e20
 subst e0 e1 e2 e3 e4 e5 e6 e7 e8 e9 e10 e11 e12 e13 e14 e15 e16 e17 e18 e19 e20
 exact ⟨_, _, _, _, _, _, _, _, _, _, _, _, _, _, _, _, _, _, _, _, _, _, _, _, _, _, _, _, _, _, rfl⟩
theorem HdR.mk21 {w : World} {x : Hd} {v1 v2 v3 v4 v5 v8 v9 v10 v12 v13 v14 v16 v17 v18 v19 : Value} (h1 : Bs w v1 x.name) (h2 : Bs w v2 x.text) (h3 : Bs w v3 x.disp) (hu : UrR w #[v4, v5, .bool x.uri.star, .bool x.uri.slashes, v8, v9, v10, .int .i64 x.uri.port, v12, v13] x.uri)
 (h14 : KVs w v14 x.ps) (h16 : Bs w v16 x.proto) (h17 : Bs w v17 x.ver) (h18 : Bs w v18 x.tr) (h19 : Bs w v19 x.host) (a1 : -9223372036854775808 ≤ x.t) (a2 : x.t ≤ 9223372036854775807) (a3 : 0 ≤ x.num) (a4 : x.num ≤ 4294967295) (a5 : -9223372036854775808 ≤ x.port) (a6 : x.port ≤ 9223372036854775807) :
 HdR w #[.int .i64 x.t, v1, v2, v3, v4, v5, .bool x.uri.star, .bool x.uri.slashes, v8, v9, v10, .int .i64 x.uri.port, v12, v13, v14, .int .u32 x.num, v16, v17, v18, v19, .int .i64 x.port] x :=
 ⟨rfl, rfl, ⟨_, rfl, h1⟩, ⟨_, rfl, h2⟩, ⟨_, rfl, h3⟩, hu, ⟨_, rfl, h14⟩, rfl, ⟨_, rfl, h16⟩, ⟨_, rfl, h17⟩, ⟨_, rfl, h18⟩, ⟨_, rfl, h19⟩, rfl, a1, a2, a3, a4, a5, a6⟩
theorem UrR.mkT {w : World} {u : Ur} {v0 v1 v4 v5 v6 v8 v9 : Value} (h0 : Bs w v0 u.scheme) (h1 : Bs w v1 u.raw) (h4 : Bs w v4 u.user) (h5 : Bs w v5 u.pass) (h6 : Bs w v6 u.host) (h8 : KVs w v8 u.ps) (h9 : KVs w v9 u.hs) (lo : -9223372036854775808 ≤ u.port) (hi : u.port ≤ 9223372036854775807) :
 UrR w #[v0, v1, .bool u.star, .bool u.slashes, v4, v5, v6, .int .i64 u.port, v8, v9] u :=
 ⟨rfl, ⟨_, rfl, h0⟩, ⟨_, rfl, h1⟩, rfl, rfl, ⟨_, rfl, h4⟩, ⟨_, rfl, h5⟩, ⟨_, rfl, h6⟩, rfl, ⟨_, rfl, h8⟩, ⟨_, rfl, h9⟩, lo, hi⟩
def ur0 : Ur := default
theorem ur0_R (w : World) : UrR w #[.slice none 0 0, .slice none 0 0, .bool false, .bool false, .slice none 0 0, .slice none 0 0, .slice none 0 0, .int .i64 0, .slice none 0 0, .slice none 0 0] ur0 :=
 UrR.mkT (u := ur0) (bs_nil w) (bs_nil w) (bs_nil w) (bs_nil w) (bs_nil w) (kvs_nil w) (kvs_nil w) (by decide) (by decide)
def plainH (h : Hd) : Hd :=
 if h.t = 0 then { (default : Hd) with t := h.t, name := h.name, text := h.text }
 else if addressed h.t then { (default : Hd) with t := h.t, name := nameL h.t, disp := h.disp, uri := h.uri, ps := h.ps }
 else if routed h.t then { (default : Hd) with t := h.t, name := nameL h.t, uri := h.uri }
 else if numbered h.t then { (default : Hd) with t := h.t, name := nameL h.t, num := h.num }
 else if h.t = 4 ∨ h.t = 10 then { (default : Hd) with t := h.t, name := nameL h.t, text := h.text }
 else if h.t = 5 then { (default : Hd) with t := h.t, name := nameL h.t, num := h.num, text := h.text }
 else if h.t = 9 then { (default : Hd) with t := h.t, name := nameL h.t, proto := h.proto, ver := h.ver, tr := h.tr, host := h.host, port := h.port, ps := h.ps }
 else { (default : Hd) with t := h.t, name := nameL h.t }
theorem Bs.sl {w : World} {v : Value} {s : ByteArray} {l : By} (h : Bs w v s.data.toList) {n : Nat} (hn : n = l.length) (hl : l = s.data.toList := by rfl) : ∃ A c, v = .slice A n c := by
 subst hn
 subst hl
 exact h.shape
theorem isAddr_at (t : Int) (b : Bool) (h : addressed t = b) (w : World) : Calls Tryz.prog 42 #[.int .i64 t] w fun e w' => e = .returned (.bool b) ∧ w = w' := h ▸ isAddressed_c t w
theorem isRout_at (t : Int) (b : Bool) (h : routed t = b) (w : World) : Calls Tryz.prog 44 #[.int .i64 t] w fun e w' => e = .returned (.bool b) ∧ w = w' := h ▸ isRouted_c t w
theorem isNumb_at (t : Int) (b : Bool) (h : numbered t = b) (w : World) : Calls Tryz.prog 45 #[.int .i64 t] w fun e w' => e = .returned (.bool b) ∧ w = w' := h ▸ isNumbered_c t w
end Go.Proofs.YtfcllhdhfenmcaaGreatDoor
