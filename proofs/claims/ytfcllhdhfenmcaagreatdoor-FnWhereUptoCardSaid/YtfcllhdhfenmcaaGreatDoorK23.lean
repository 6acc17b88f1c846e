/- Part 23 of the proof: laws and walks (merged by a program). -/
import Derived.Test.YtfcllhdhfenmcaaGreatDoorK01
import Derived.Test.YtfcllhdhfenmcaaGreatDoorK19
import Derived.Shelf.GgClosure.StringsTrimFunc
import Derived.Lib.AtoiAll
import Derived.Lib.ItoaLen
set_option linter.all false
set_option maxHeartbeats 8000000
set_option maxRecDepth 100000
namespace Go.Proofs.YtfcllhdhfenmcaaGreatDoor
open Go.RowKit Go.Proofs.Tryz
structure VB (w : World) (b o : Nat) (cs P R : List Value) (T : TypeId) : Prop where
 off : o = P.length
 blk : Blk w b (P ++ cs ++ R).toArray T
theorem VB.cell {w : World} {b o : Nat} {cs P R : List Value} {T : TypeId} (h : VB w b o cs P R T) (k : Nat) (v : Value) (hv : cs[k]? = some v) : w.cell? ⟨b, o + k, none⟩ = some v := by
 refine h.blk.cell _ v ?_
 have hk : k < cs.length := (List.getElem?_eq_some_iff.1 hv).1
 rw [h.off, List.getElem?_toArray, List.append_assoc, List.getElem?_append_right (by omega), Nat.add_sub_cancel_left, List.getElem?_append_left hk]
 exact hv
theorem VB.lt {w : World} {b o : Nat} {cs P R : List Value} {T : TypeId} (h : VB w b o cs P R T) : b < w.heap.size := h.blk.lt
theorem VB.grow {w w' : World} {b o : Nat} {cs P R : List Value} {T : TypeId} (h : VB w b o cs P R T) (hb : Below w.heap.size w w') : VB w' b o cs P R T := ⟨h.off, h.blk.grow hb⟩
theorem VB.oth {g : Nat} {w W : World} {b o : Nat} {cs P R : List Value} {T : TypeId} (h : VB w b o cs P R T) (ho : Oth g w W) (hne : b ≠ g) : VB W b o cs P R T := ⟨h.off, h.blk.oth ho hne⟩
theorem VB.sub {w : World} {b o : Nat} {cs P R : List Value} {T : TypeId} (h : VB w b o cs P R T) (k : Nat) (a : Array Value) (ha : (cs.drop k).take a.size = a.toList) (j : Nat) (v : Value) (hv : a[j]? = some v) : w.cell? ⟨b, o + k + j, none⟩ = some v := by
 rw [Nat.add_assoc]
 refine h.cell _ v ?_
 have hj : j < a.size := (Array.getElem?_eq_some_iff.1 hv).1
 rw [← Array.getElem?_toList, ← ha, List.getElem?_take_of_lt hj, List.getElem?_drop] at hv
 exact hv
theorem step_store_view {P : Program} {ops : Array Oper} {o : Oper} {a : Act} {w : World} {K : Act → World → Prop} {Q : Exit → Act → World → Prop} {E : Prop} (hgd : o.guard = none) (ty : TypeId) (x y : Operand) (ho : o.op = .store ty x y)
 (g off k : Nat) (vs cs cs' L R : List Value) (T : TypeId) (hx : a.eval x = .pointer (some ⟨g, off + k, none⟩)) (hy : (a.eval y).cells.toList = vs) (hi : (P.info? ty).map (·.size) = some vs.length)
 (h1 : vs.all (·.oneCell') = true) (hb : VB w g off cs L R T) (hle : decide (k + vs.length ≤ cs.length) = true) (hC : cs.take k ++ vs ++ cs.drop (k + vs.length) = cs')
 (h : ∀ W, VB W g off cs' L R T → Oth g w W → K (a.put o.dst undef) W) : if Region.wanted o (yielded ops a.tmps) = true then Oper.wp P o a w K Q else E := by
 have hle' : k + vs.length ≤ cs.length := by simpa using hle
 have hoff := hb.off
 refine step_store_at hgd ty x y ho g (off + k) vs (L ++ cs ++ R).toArray (L ++ cs' ++ R).toArray T hx hy hi h1 hb.blk ?_ ?_ (fun W hW ho => h W ⟨hoff, hW⟩ ho)
 ·simp; omega
 ·subst hC
  subst hoff
  simp only [List.append_assoc]
  congr 1
  rw [List.take_append, List.drop_append]
  simp only [Nat.add_sub_cancel_left]
  rw [List.take_of_length_le (l := L) (by omega), List.drop_eq_nil_of_le (show L.length ≤ _ by omega), List.nil_append]
  rw [List.take_append, List.drop_append]
  have e1 : k - cs.length = 0 := by omega
  have e2 : L.length + k + vs.length - L.length = k + vs.length := by omega
  have e3 : k + vs.length - cs.length = 0 := by omega
  simp only [e1, e2, e3, List.take_zero, List.drop_zero, List.append_nil, List.append_assoc]
theorem sV {P : Program} {ops : Array Oper} {o : Oper} {a : Act} {w : World} {K : Act → World → Prop} {Q : Exit → Act → World → Prop} {E : Prop} (g off k : Nat) (vs : List Value) {T : TypeId} {cs cs' L R : List Value} (hb : VB w g off cs L R T)
 (h : ∀ W, VB W g off cs' L R T → Oth g w W → K (a.put o.dst undef) W) (hgd : o.guard = none := by rfl) {ty : TypeId} {x y : Operand} (ho : o.op = .store ty x y := by rfl) (hx : a.eval x = .pointer (some ⟨g, off + k, none⟩) := by kernel_rfl) (hy : (a.eval y).cells.toList = vs := by kernel_rfl) (hi : (P.info? ty).map (·.size) = some vs.length := by kernel_rfl)
 (h1 : vs.all (·.oneCell') = true := by kernel_rfl) (hle : decide (k + vs.length ≤ cs.length) = true := by kernel_rfl) (hC : cs.take k ++ vs ++ cs.drop (k + vs.length) = cs' := by simp only [List.take_succ_cons, List.take_zero, List.drop_succ_cons, List.drop_zero, List.drop_nil, List.cons_append, List.nil_append, List.append_nil, List.length_cons, List.length_nil, Nat.reduceAdd] <;> rfl) :
 if Region.wanted o (yielded ops a.tmps) = true then Oper.wp P o a w K Q else E := step_store_view hgd ty x y ho g off k vs cs cs' L R T hx hy hi h1 hb hle hC h
section
variable {P : Program} {ops : Array Oper} {S : World → Prop} {o : Oper} {a : Act}
theorem yf_byte (hw : Region.wanted o (yielded ops a.tmps) = true) (T : TypeId) (hu : P.underlying T = some .string) (x y : Operand) (ho : o.op = .index T x y) (s : ByteArray) (n : Nat) (hx : a.eval x = .string s) (hy : a.eval y = .int .i64 n) (h : n < s.size) : YieldsIf P ops S o (.int .u8 ((gb s n : Nat) : Int)) a :=
 .inl ⟨hw, fun w _ => by
  unfold execOp
  have hh : (0 : Int) ≤ (n : Int) ∧ (n : Int) < (s.size : Int) := by omega
  simp [ho, hx, hy, run_index_string (h := hu), hh, gb_at s n h]⟩
end
def pidx (l : List PV) (k : ByteArray) : Option Nat := l.findIdx? (fun p => decide (p.k = k))
def addPV (l : List PV) (k v : ByteArray) : List PV := match pidx l k with
 | some i => l.set i ⟨k, v⟩
 | none => l ++ [⟨k, v⟩]
theorem pidx_at (l : List PV) (nm : ByteArray) (k : Nat) (hk : k < l.length) (h : ∀ j, j < k → (pvAt l j).k ≠ nm) (he : (pvAt l k).k = nm) : pidx l nm = some k := by
 unfold pidx
 rw [List.findIdx?_eq_some_iff_getElem]
 refine ⟨hk, by rw [← pvAt_get l k hk]; simpa using he, fun j hj => ?_⟩
 have := h j hj
 rw [pvAt_get l j (by omega)] at this
 simpa using this
theorem pidx_none (l : List PV) (nm : ByteArray) (h : ∀ j, j < l.length → (pvAt l j).k ≠ nm) : pidx l nm = none := by
 unfold pidx
 rw [List.findIdx?_eq_none_iff]
 intro x hx
 obtain ⟨j, hj, rfl⟩ := List.getElem_of_mem hx
 have := h j hj
 rw [pvAt_get l j hj] at this
 simpa using this
theorem pidx_some {l : List PV} {nm : ByteArray} {k : Nat} (h : pidx l nm = some k) : k < l.length ∧ (pvAt l k).k = nm := by
 unfold pidx at h
 rw [List.findIdx?_eq_some_iff_getElem] at h
 obtain ⟨hk, h1, _⟩ := h
 refine ⟨hk, ?_⟩
 rw [pvAt_get l k hk]
 simpa using h1
theorem addPV_len (l : List PV) (k v : ByteArray) : (addPV l k v).length ≤ l.length + 1 := by
 unfold addPV
 split <;> simp
structure PS where
 start : Nat
 sep : Nat
 quote : Int
 state : Nat
 ps : List PV
def sx (s : ByteArray) (a b : Nat) : ByteArray := s.extract a b
def pstep (s : ByteArray) (sp en : Nat) (i c : Nat) (st : PS) : (Nat × PS) ⊕ PS :=
 if c = en then .inl (i, st) else
 if st.state = 1 then .inr { st with sep := 0, start := i, state := 2 } else
 if st.state = 2 then
  (if c = sp then .inr { st with ps := addPV st.ps (sx s st.start i) ⟨#[]⟩, state := 1 } else
   if c = 61 then .inr { st with sep := i, state := 3 } else .inr st) else
 if st.state = 3 then
  (if c = 34 then .inr { st with quote := i, state := 4 } else
   if c = sp then .inr { st with ps := addPV st.ps (sx s st.start st.sep) (sx s (st.sep + 1) i), start := st.sep + 1, state := 1 } else .inr st) else
 (if c = 34 then .inr { st with ps := addPV st.ps (sx s st.start s.size) (sx s (st.quote.toNat + 1) i), state := 1 } else .inr st)
structure PInv (i : Nat) (st : PS) (n0 : Nat) : Prop where
 start : st.start ≤ i
 sep : st.sep = 0 ∨ st.sep + 1 ≤ i
 state : st.state = 1 ∨ st.state = 2 ∨ st.state = 3 ∨ st.state = 4
 val : st.state = 3 ∨ st.state = 4 → st.start ≤ st.sep ∧ st.sep + 1 ≤ i
 quo : st.state = 4 → 0 ≤ st.quote ∧ st.quote + 1 ≤ i
 len : st.ps.length ≤ n0 + i
theorem PInv.mono {i j n0 : Nat} {st : PS} (h : PInv i st n0) (hj : i ≤ j) : PInv j st n0 :=
 ⟨by have := h.start; omega, by have := h.sep; omega, h.state, fun q => by have := h.val q; omega, fun q => by have := h.quo q; omega, by have := h.len; omega⟩
theorem pstep_inv {s : ByteArray} {sp en i c n0 : Nat} {st st' : PS} (h : PInv i st n0) (he : pstep s sp en i c st = .inr st') : PInv (i + 1) st' n0 := by
 have h1 := h.start
 have h2 := h.sep
 have h3 := h.state
 have h4 := h.val
 have h5 := h.quo
 have h6 := h.len
 unfold pstep at he
 repeat' split at he
 all_goals (first | (cases he; done) | skip)
 all_goals (injection he with he; subst he)
 ·exact ⟨by simp, .inl rfl, by simp, by simp, by simp, by simp; omega⟩
 ·exact ⟨by simp; omega, by simp; omega, by simp, by simp, by simp, by have := addPV_len st.ps (sx s st.start i) ⟨#[]⟩; simp; omega⟩
 ·exact ⟨by simp; omega, by simp, by simp, by simp; omega, by simp, by simp; omega⟩
 ·exact h.mono (by omega)
 ·exact ⟨by simp; omega, by simp; omega, by simp, by simp; have := h4 (.inl (by assumption)); omega, by simp, by simp; omega⟩
 ·have := h4 (.inl (by assumption))
  exact ⟨by simp; omega, by simp; omega, by simp, by simp, by simp, by have := addPV_len st.ps (sx s st.start st.sep) (sx s (st.sep + 1) i); simp; omega⟩
 ·exact h.mono (by omega)
 ·exact ⟨by simp; omega, by simp; omega, by simp, by simp, by simp, by have := addPV_len st.ps (sx s st.start s.size) (sx s (st.quote.toNat + 1) i); simp; omega⟩
 ·exact h.mono (by omega)
theorem pstep_high {s : ByteArray} {sp en : Nat} (hs : sp < 128) (he : en < 128) (i c : Nat) (hc : 128 ≤ c) (st : PS) : pstep s sp en i c st = .inr (if st.state = 1 then { st with sep := 0, start := i, state := 2 } else st) := by
 unfold pstep
 rw [if_neg (by omega)]
 split
 ·rfl
 ·repeat' split
  all_goals first | omega | rfl
theorem pstep_high2 {s : ByteArray} {sp en : Nat} (hs : sp < 128) (he : en < 128) (st : PS) (h : st.state ≠ 1) (i c : Nat) (hc : 128 ≤ c) : pstep s sp en i c st = .inr st := by
 rw [pstep_high hs he i c hc, if_neg h]
theorem scanAt_high1 {σ ρ : Type} (f : Nat → Nat → σ → ρ ⊕ σ) (s : ByteArray) (st1 : σ) (hf : ∀ i c, 128 ≤ c → f i c st1 = .inr st1) :
 ∀ (d i : Nat), i + d ≤ s.size → (∀ j, i ≤ j → j < i + d → 128 ≤ gb s j) → scanAt f s i st1 = scanAt f s (i + d) st1 := by
 intro d
 induction d with
 | zero => intro i _ _; rfl
 | succ d ih =>
   intro i hi hb
   rw [scanAt_step f s i st1 (by omega), hf i _ (hb i (Nat.le_refl _) (by omega))]
   simp only []
   rw [ih (i + 1) (by omega) (fun j h1 h2 => hb j (by omega) (by omega))]
   congr 1
   omega
theorem pscan_high (s : ByteArray) (sp en : Nat) (hs : sp < 128) (he : en < 128) (i : Nat) (st : PS) (h : i < s.size) (ha : 128 ≤ gb s i) :
 scanAt (pstep s sp en) s i st = scanAt (pstep s sp en) s (i + dw s i) (if st.state = 1 then { st with sep := 0, start := i, state := 2 } else st) := by
 obtain ⟨h1, h2⟩ := dw_high s i h ha
 have h3 := dw_pos s i h
 rw [scanAt_step _ s i st h, pstep_high hs he i _ ha]
 simp only []
 rw [scanAt_high1 (pstep s sp en) s _ (fun j c hc => pstep_high2 hs he _ (by split <;> simp_all) j c hc) (dw s i - 1) (i + 1) (by omega) (fun j q1 q2 => h2 j (by omega) (by omega))]
 congr 1
 omega
def pfin (s : ByteArray) (n : Nat) (st : PS) : Nat × List PV :=
 let p1 := if 0 < st.sep ∧ st.start < st.sep then addPV st.ps (sx s st.start st.sep) (sx s (st.sep + 1) n) else st.ps
 (n, if st.sep = 0 ∧ st.start < n then addPV p1 (sx s st.start s.size) ⟨#[]⟩ else p1)
def pread (s : ByteArray) (sp en : Nat) (ps : List PV) : Nat × List PV :=
 match scanAt (pstep s sp en) s 0 ⟨0, 0, -1, 1, ps⟩ with
 | .inl (i, st) => pfin s i st
 | .inr st => pfin s s.size st
theorem pfin_len (s : ByteArray) (n : Nat) (st : PS) : (pfin s n st).2.length ≤ st.ps.length + 2 := by
 unfold pfin
 simp only []
 have h1 : (if 0 < st.sep ∧ st.start < st.sep then addPV st.ps (sx s st.start st.sep) (sx s (st.sep + 1) n) else st.ps).length ≤ st.ps.length + 1 := by
  split
  ·exact addPV_len _ _ _
  ·omega
 generalize (if 0 < st.sep ∧ st.start < st.sep then addPV st.ps (sx s st.start st.sep) (sx s (st.sep + 1) n) else st.ps) = p1 at h1 ⊢
 split
 ·have := addPV_len p1 (sx s st.start s.size) ⟨#[]⟩; omega
 ·omega
structure Stp (base b : Nat) (w w' : World) : Prop where
 os : w'.os = w.os
 tape : w'.tape = w.tape
 output : w'.output = w.output
 size : w.heap.size ≤ w'.heap.size
 block : ∀ j o, w.heap[j]? = some o → j ≠ b → (j < base ∨ ∀ c fr, o ≠ .cells c 145 fr) → w'.heap[j]? = some o
theorem Stp.refl (base b : Nat) (w : World) : Stp base b w w := ⟨rfl, rfl, rfl, Nat.le_refl _, fun _ _ h _ _ => h⟩
theorem Stp.trans {base b : Nat} {u v w : World} (h : Stp base b u v) (k : Stp base b v w) : Stp base b u w :=
 ⟨k.os.trans h.os, k.tape.trans h.tape, k.output.trans h.output, Nat.le_trans h.size k.size, fun j o e n q => k.block j o (h.block j o e n q) n q⟩
theorem Stp.of {base b : Nat} {w w' : World} (h : Below w.heap.size w w') : Stp base b w w' := ⟨h.os, h.tape, h.output, h.size, fun j _ e _ _ => (h.block j (Array.getElem?_eq_some_iff.1 e).1).trans e⟩
theorem Stp.oth {base b : Nat} {w w' : World} (h : Oth b w w') : Stp base b w w' := ⟨h.os, h.tape, h.output, Nat.le_of_eq h.size.symm, fun j _ e n _ => (h.block j n).trans e⟩
theorem Stp.othRow {base b g : Nat} {w w' : World} {C : Array Value} (h : Oth g w w') (hg : Blk w g C 145) (hb : base ≤ g) : Stp base b w w' :=
 ⟨h.os, h.tape, h.output, Nat.le_of_eq h.size.symm, fun j o e _ q => by
  refine (h.block j ?_).trans e
  rintro rfl
  rcases q with q | q
  ·omega
  ·have := hg.symm.trans e
   injection this with this
   exact q _ _ this.symm⟩
theorem Stp.low {base b : Nat} {w w' : World} (h : Stp base b w w') {n : Nat} (h1 : n ≤ base) (h2 : n ≤ b) (h3 : n ≤ w.heap.size) : Below n w w' :=
 ⟨h.os, h.tape, h.output, h.size, fun k hk => by
  have hl : k < w.heap.size := by omega
  rw [h.block k _ (Array.getElem?_eq_getElem hl) (by omega) (.inl (by omega)), Array.getElem?_eq_getElem hl]⟩
theorem Stp.mono {base base' b : Nat} {w w' : World} (h : Stp base b w w') (hb : base' ≤ base) : Stp base' b w w' := ⟨h.os, h.tape, h.output, h.size, fun j o e n q => h.block j o e n (by rcases q with q | q; exact .inl (by omega); exact .inr q)⟩
theorem HPs.stp {base b : Nat} {w w' : World} {v : Value} {l : List PV} {C : Array Value} {T : TypeId} (h : HPs w v l) (hs : Stp base b w w') (hbase : w.heap.size ≤ base) (hb : Blk w b C T) (hT : T ≠ 145) : HPs w' v l := by
 obtain ⟨A, c, rfl, h1, h2, h3⟩ := h
 refine ⟨A, c, rfl, h1, h2, fun h0 => ?_⟩
 obtain ⟨g, o, D, fr, rfl, hh, hc⟩ := h3 h0
 have hl := (Array.getElem?_eq_some_iff.1 hh).1
 refine ⟨g, o, D, fr, rfl, hs.block _ _ hh ?_ (.inl (by omega)), hc⟩
 rintro rfl
 have := hb.symm.trans hh
 injection this with this
 injection this with _ this _
 exact hT this
def ixV (o : Option Nat) : Int := match o with | some i => ((i : Nat) : Int) | none => -1
theorem index_c (v : Value) (l : List PV) (nm : ByteArray) (w : World) (h : HPs w v l) (hl : l.length ≤ 4000000000000) :
 Calls Tryz.prog 142 #[v, .string nm] w fun e w' => e = .returned (.int .i64 (ixV (pidx l nm))) ∧ Below w.heap.size w w' := by
 have HH := Lib.hid h
 obtain ⟨A, c, rfl⟩ := h.shape
 clear h
 have HC := Lib.hid (fun h0 => HH.out.cells h0)
 obtain ⟨n, hn⟩ : ∃ n, n = l.length := ⟨_, rfl⟩
 rw [← hn] at hl
 have HN := Lib.hid hn
 rw [← hn] at HC
 go_enter func142, ntmps142
 rw [← hn]
 clear hn HH
 go_wp2
 go_loopw [9] (fun i wr => ∃ k : Nat, k ≤ n ∧ i = .int .i64 k ∧ Below w.heap.size w wr ∧ Hid (∀ j, j < k → (pvAt l j).k ≠ nm)) (fun i _ => n - (intOf i).toNat)
 case atStart => exact ⟨0, Nat.zero_le _, rfl, Below.refl _ _, fun j hj => absurd hj (by omega)⟩
 case round =>
  obtain ⟨k, hk, rfl, hB, hno⟩ := hrel
  by_cases hlt : k < n
  ·obtain ⟨g, o, rfl, hgl, _, hc⟩ := HC.out (by omega)
   obtain ⟨q0, q1⟩ := hc k hlt
   have c0 := (hB.cell (p := ⟨g, o + k * 2, none⟩) hgl).trans q0
   have c1 := (hB.cell (p := ⟨g, o + k * 2 + 1, none⟩) hgl).trans q1
   clear q0 q1 hc HC
   obtain ⟨x, hx⟩ : ∃ x, x = pvAt l k := ⟨_, rfl⟩
   rw [← hx] at c0 c1
   have HX := Lib.hid hx
   clear hx
   have hsz := hB.size
   have hB1 : Below w.heap.size w (wr.alloc (.cells #[.string x.k, .string x.v] 145)) := hB.alloc (by omega) _
   have hK0 := Blk.new wr #[.string x.k, .string x.v] 145
   by_cases he : x.k = nm
   ·have hg : pidx l nm = some k := pidx_at l nm k (by rw [← HN.out]; exact hlt) hno.out (by rw [← HX.out]; exact he)
    have HG := Lib.hid hg
    clear hg
    subst he
    go_wp2
    go_ret
    exact ⟨by rw [HG.out]; rfl, hB1⟩
   ·have hno1 : Hid (∀ j, j < k + 1 → (pvAt l j).k ≠ nm) := by
     intro j hj
     rcases Nat.lt_or_ge j k with h3 | h3
     ·exact hno.out j h3
     ·obtain rfl : j = k := by omega
      rw [← HX.out]; exact he
    go_upto_region 4 with fail
    clear c0 c1
    go_upto_region 4 with fail
    refine pR [.pointer (some ⟨wr.heap.size, 0, none⟩)] ?_
    refine Wl.ld (hK0.cell 0 (.string x.k) (by kernel_rfl)) underlying9 ?_
    refine pP [_] ?_
    refine isF x.k nm he ?_
    refine wN ?_
    go_wp2
    go_roundw
    case rel => exact ⟨k + 1, by omega, by go_num, hB1, hno1⟩
    case measure => simp [intOf]; omega
  ·obtain rfl : k = n := by omega
   have hg : pidx l nm = none := pidx_none l nm (by rw [← HN.out]; exact hno.out)
   go_wp2
   go_ret
   exact ⟨by rw [hg]; rfl, hB⟩
theorem yf_idx {P : Program} {ops : Array Oper} {S : World → Prop} {o : Oper} {a : Act} (hw : Region.wanted o (yielded ops a.tmps) = true) (T e : TypeId) (hu : P.underlying T = some (.slice e)) (x y : Operand) (ho : o.op = .indexAddr T x y) (g off n c i sz : Nat) (hx : a.eval x = .slice (some ⟨g, off, none⟩) n c) (hy : a.eval y = .int .i64 i) (hi : i < n) (hs : (P.info? e).map (·.size) = some sz) :
 YieldsIf P ops S o (.pointer (some ⟨g, off + i * sz, none⟩)) a :=
 .inl ⟨hw, fun w _ => by
  cases hq : P.info? e with
  | none => simp [hq] at hs
  | some z =>
    have hs' : z.size = sz := by simpa [hq] using hs
    have h0 : (0 : Int) ≤ (i : Int) ∧ (i : Int) < (n : Int) := by omega
    unfold execOp
    simp [ho, hx, hy, Instr.indexAt, run_underlying hu, asIntOf, h0, sizeOf, typeInfo, hq, hs', add_none]
    intro hc
    omega⟩
theorem infoHK : (Tryz.prog.info? 145).map (·.size) = some 2 := by kernel_rfl
theorem step_append_pv {ops : Array Oper} {o : Oper} {a : Act} {W : World} {K : Act → World → Prop} {Q : Exit → Act → World → Prop} {E : Prop} (hgd : o.guard = none) (s x : Operand)
 (ho : o.op = .call { callee := .builtin .append, args := #[s, x], argTypes := #[72, 72] })
 (base : Nat) (v : Value) (l : List PV) (y : PV) (hs : a.eval s = v) (ad : Addr) (c : Nat) (hx : a.eval x = .slice (some ad) 1 c)
 (e0 : W.cell? ad = some (.string y.k)) (e1 : W.cell? (ad.add 1) = some (.string y.v))
 (HO : Pw base W v l) (hbase : base ≤ W.heap.size) (hlen : l.length + 1 ≤ 4000000000000)
 (h : ∀ v1 W1, Pw base W1 v1 (l ++ [y]) → W.grownBy W1 v.ownBlock → K (a.put o.dst v1) W1) : if Region.wanted o (yielded ops a.tmps) = true then Oper.wp Tryz.prog o a W K Q else E := by
 have hw : Region.wanted o (yielded ops a.tmps) = true := by simp [Region.wanted, hgd]
 rw [if_pos hw]
 obtain ⟨i0, hi, hzz⟩ := Option.map_eq_some_iff.1 infoPV
 simp only [Prod.mk.injEq] at hzz
 obtain ⟨hz0, hz1, hz2⟩ := hzz
 refine wp_append_own W s x 72 ho base 145 i0 _ 2 32 underlying72 hi hz0 hz1 hz2 rfl (by decide) v l.length (pvals l) hs HO ad 1 c [.string y.k, .string y.v] hx rfl ?_ ?_ (by unfold maxLen; omega) (by omega) hbase ?_
 ·intro j u hu
  match j, hu with
  | 0, hu => rw [show ad.add 0 = ad from rfl, e0]; exact hu
  | 1, hu => rw [e1]; exact hu
  | k + 2, hu => simp at hu
 ·intro u hu
  simp only [List.mem_cons, List.not_mem_nil, or_false] at hu
  rcases hu with rfl | rfl <;> rfl
 ·intro v1 W1 hown hg _
  refine h v1 W1 ?_ hg
  unfold Pw
  rw [List.length_append, pvals_append]
  exact hown
theorem Pw.kind {base : Nat} {w : World} {v : Value} {l : List PV} (h : Pw base w v l) (k : Nat) (hk : v.ownBlock = some k) : ∃ c, w.heap[k]? = some (.cells c 145 (0, 0)) := by
 obtain ⟨_, ⟨rfl, _⟩ | ⟨g, cap, cur, rfl, hb, hh, _⟩⟩ := h
 ·simp [Value.ownBlock] at hk
 ·have : g = k := by simpa [Value.ownBlock] using hk
  subst this
  exact ⟨_, hh⟩
theorem Stp.grown {base b : Nat} {w w' : World} {v : Value} {l : List PV} (h : Pw base w v l) (hg : w.grownBy w' v.ownBlock) : Stp base b w w' :=
 ⟨hg.os, hg.tape, hg.output, hg.size, fun j o e _ q => by
  rw [hg.block j (Array.getElem?_eq_some_iff.1 e).1 ?_]
  ·exact e
  ·intro hj
   have h1 := h.base_le j hj.symm
   obtain ⟨c, h2⟩ := h.kind j hj.symm
   rcases q with q | q
   ·omega
   ·rw [h2] at e
    injection e with e
    exact q _ _ e.symm⟩
theorem VB.stp {base b : Nat} {w w' : World} {k o : Nat} {cs L R : List Value} {T : TypeId} (h : VB w k o cs L R T) (hs : Stp base b w w') (hne : k ≠ b) (hT : T ≠ 145) : VB w' k o cs L R T :=
 ⟨h.off, hs.block _ _ h.blk hne (.inr fun c fr e => by injection e with _ e _; exact hT e)⟩
theorem Blk.kv {w : World} {b : Nat} {C : Array Value} {T : TypeId} (h : Blk w b C T) (hT : T ≠ 145) (c : Array Value) (fr : Nat × Nat) (e : w.heap[b]? = some (.cells c 145 fr)) : False := by
 have := h.symm.trans e
 injection this with this
 injection this with _ this _
 exact hT this
theorem VB.grown {base : Nat} {w w' : World} {k o : Nat} {cs L R : List Value} {T : TypeId} {v : Value} {l : List PV} (h : VB w k o cs L R T) (hp : Pw base w v l) (hg : w.grownBy w' v.ownBlock) (hT : T ≠ 145) : VB w' k o cs L R T :=
 ⟨h.off, (hg.block k h.lt (fun e => by obtain ⟨c, h2⟩ := hp.kind k e.symm; exact h.blk.kv hT _ _ h2)).trans h.blk⟩
theorem Pw.stay {base b : Nat} {w w' : World} {v : Value} {l : List PV} {C : Array Value} {T : TypeId} (h : Pw base w v l) (ho : Oth b w w') (hb : Blk w b C T) (hT : T ≠ 145) : Pw base w' v l := by
 obtain ⟨hl, h | ⟨g, cap, cur, rfl, hb', hh, r⟩⟩ := h
 ·exact ⟨hl, .inl h⟩
 ·exact ⟨hl, .inr ⟨g, cap, cur, rfl, hb', (ho.block g (fun e => by subst e; exact hb.kv hT _ _ hh)).trans hh, r⟩⟩
theorem pvals_set (l : List PV) : ∀ (i : Nat) (x : ByteArray), i < l.length → pvals (l.set i ⟨(pvAt l i).k, x⟩) = (pvals l).set (i * 2 + 1) (.string x) := by
 induction l with
 | nil => intro i x hi; simp at hi
 | cons y t ih =>
   intro i x hi
   cases i with
   | zero => rfl
   | succ i =>
     have := ih i x (by simpa using hi)
     have hp : ∀ (z : PV) (t : List PV), pvals (z :: t) = .string z.k :: .string z.v :: pvals t := fun _ _ => rfl
     have he : pvAt (y :: t) (i + 1) = pvAt t i := rfl
     rw [List.set_cons_succ, hp, hp, he, this, show (i + 1) * 2 + 1 = i * 2 + 1 + 1 + 1 by omega]
     rfl
theorem Pw.opn {base : Nat} {w : World} {v : Value} {l : List PV} (h : Pw base w v l) (h0 : 0 < l.length) : ∃ g cap cur, v = .slice (some ⟨g, 0, none⟩) l.length cap ∧ base ≤ g ∧ Blk w g cur 145 ∧ l.length * 2 ≤ cur.size ∧
 ∀ W i x, i < l.length → Blk W g (cur.toList.set (i * 2 + 1) (.string x)).toArray 145 → Pw base W v (l.set i ⟨(pvAt l i).k, x⟩) := by
 obtain ⟨hl, ⟨_, h1⟩ | ⟨g, cap, cur, rfl, hb, hh, h1, h2, h3, h4⟩⟩ := h
 ·omega
 ·refine ⟨g, cap, cur, rfl, hb, hh, by rw [h3]; exact Nat.mul_le_mul_right 2 h1, fun W i x hi hW => ?_⟩
  have hs : (pvals (l.set i ⟨(pvAt l i).k, x⟩)).length = (l.set i ⟨(pvAt l i).k, x⟩).length * 2 := pvals_length _
  unfold Pw
  rw [show (l.set i ⟨(pvAt l i).k, x⟩).length = l.length by simp] at hs ⊢
  refine ⟨hs, .inr ⟨g, cap, _, rfl, hb, hW, h1, h2, by simpa using h3, ?_⟩⟩
  rw [pvals_set l i x hi, ← h4]
  simp [List.take_set]
theorem step_store_cell {P : Program} {ops : Array Oper} {o : Oper} {a : Act} {w : World} {K : Act → World → Prop} {Q : Exit → Act → World → Prop} {E : Prop} (hgd : o.guard = none) (ty : TypeId) (x y : Operand) (ho : o.op = .store ty x y)
 (g off : Nat) (v : Value) (C : Array Value) (T : TypeId) (hx : a.eval x = .pointer (some ⟨g, off, none⟩)) (hy : a.eval y = v) (hi : (P.info? ty).map (·.size) = some 1)
 (h1 : v.oneCell' = true) (hb : Blk w g C T) (hle : off < C.size)
 (h : ∀ W, Blk W g (C.toList.set off v).toArray T → Oth g w W → K (a.put o.dst undef) W) : if Region.wanted o (yielded ops a.tmps) = true then Oper.wp P o a w K Q else E := by
 refine step_store_at hgd ty x y ho g off [v] C (C.toList.set off v).toArray T hx (by rw [hy]; cases v <;> first | rfl | cases h1) hi (by simpa using h1) hb (by simp; omega) ?_ h
 congr 1
 rw [List.set_eq_take_append_cons_drop, if_pos (by simpa using hle)]
 simp
theorem add_c (base b q : Nat) (w : World) (v : Value) (L R : List Value) (T : TypeId) (l : List PV) (k x : ByteArray) (h : VB w b q [v] L R T) (hp : Pw base w v l) (hT : T ≠ 145) (hbase : base ≤ w.heap.size) (hlen : l.length + 1 ≤ 4000000000000) :
 Calls Tryz.prog 128 #[.pointer (some ⟨b, q, none⟩), .string k, .string x] w fun e w' => ∃ v', e = .returned v' ∧ VB w' b q [v'] L R T ∧ Pw base w' v' (addPV l k x) ∧ Stp base b w w' := by
 have HIX := Lib.hid (index_c v l k w hp.hps (by omega))
 have HPW := Lib.hid hp
 cases hix : pidx l k with
 | some i =>
   obtain ⟨hi, hk⟩ := pidx_some hix
   obtain ⟨g, cap, cur, rfl, hbg, hg, hsz, hset⟩ := hp.opn (by omega)
   have HSET := Lib.hid hset
   clear hset
   have hadd : addPV l k x = l.set i ⟨(pvAt l i).k, x⟩ := by unfold addPV; rw [hix, hk]
   have HADD := Lib.hid hadd
   clear hadd
   rw [hix] at HIX
   replace HIX : Hid (Calls Tryz.prog 142 #[.slice (some ⟨g, 0, none⟩) l.length cap, .string k] w fun e w' => e = .returned (.int .i64 ((i : Nat) : Int)) ∧ Below w.heap.size w w') := HIX
   have HHK := Lib.hid hk
   clear hk hix hp
   have hS0 := Stp.refl base b w
   go_enter func128, ntmps128
   have hs0 := Below.refl w.heap.size w
   have hv := h
   go_upto_region 0 with fail
   refine pS [_] ?_
   go_upto_region 1 with fail
   refine pR [_, .pointer (some ⟨b, q, none⟩)] ?_
   refine Wl.ld (hv.cell 0 (.slice (some ⟨g, 0, none⟩) l.length cap) (by kernel_rfl)) underlying72 ?_
   refine pP [_] ?_
   refine cD func142 HIX.out ?_
   rintro e w1 ⟨rfl, hb1⟩
   refine cR ?_
   obtain ⟨hS1, hz1, hy1⟩ := zC hs0 hb1
   replace hg := hg.grow hb1
   replace hv := hv.grow hb1
   refine pQ [_] ?_
   have hst0 := Stp.of (base := base) (b := b) hb1
   have hne : b ≠ g := by
    rintro rfl
    exact hv.blk.kv hT _ _ hg
   clear hs0 hS1 hb1
   have hs1 := Below.refl 0 w1
   go_upto_region 2 with fail
   refine pR [_] ?_
   refine ihT .i64 (i : Nat) 0 ?_
   refine wN ?_
   go_upto_region 3 with fail
   refine pR [_, .pointer (some ⟨b, q, none⟩)] ?_
   refine Wl.ld (hv.cell 0 (.slice (some ⟨g, 0, none⟩) l.length cap) (by kernel_rfl)) underlying72 ?_
   refine pP [_, _] ?_
   refine yb (.pointer (some ⟨g, 0 + i * 2, none⟩)) hs1 (yf_idx (by kernel_rfl) 72 145 underlying72 _ _ rfl g 0 l.length cap i 2 (by kernel_rfl) (by kernel_rfl) hi infoHK) ?_
   refine pP [.pointer (some ⟨g, 0 + i * 2 + 1, none⟩)] ?_
   refine Wl.step (fun K hK => ?_)
   refine step_store_cell rfl 9 _ _ rfl g (0 + i * 2 + 1) (.string x) cur 145 (by kernel_rfl) (by kernel_rfl) (by kernel_rfl) rfl hg (by omega) ?_
   intro w2 hg2 hO
   replace hv := hv.oth hO hne
   have hS2 : Below 0 w1 w2 := hs1.trans (hO.below (Nat.zero_le _))
   have hst := hst0.trans (Stp.othRow hO hg hbg)
   clear hO hg
   refine hK _ _ ?_
   clear hK K
   (try simp only [Act.put, zD, zE, zF])
   refine wN ?_
   go_upto_region 5 with fail
   refine pR [_, .pointer (some ⟨b, q, none⟩)] ?_
   refine Wl.ld (hv.cell 0 (.slice (some ⟨g, 0, none⟩) l.length cap) (by kernel_rfl)) underlying72 ?_
   refine pQ [_] ?_
   rw [show 0 + i * 2 + 1 = i * 2 + 1 by omega] at hg2
   have hp2 := HSET.out _ i x hi hg2
   rw [← HADD.out] at hp2
   go_wp2
   go_ret
   exact ⟨_, rfl, hv, hp2, hst⟩
 | none =>
   have hadd : addPV l k x = l ++ [⟨k, x⟩] := by unfold addPV; rw [hix]
   have HADD := Lib.hid hadd
   clear hadd
   rw [hix] at HIX
   replace HIX : Hid (Calls Tryz.prog 142 #[v, .string k] w fun e w' => e = .returned (.int .i64 (-1)) ∧ Below w.heap.size w w') := HIX
   clear hix
   go_enter func128, ntmps128
   have hs0 := Below.refl w.heap.size w
   have hv := h
   obtain ⟨A, c, rfl⟩ := hp.hps.shape
   go_upto_region 0 with fail
   refine pS [_] ?_
   go_upto_region 1 with fail
   refine pR [_, .pointer (some ⟨b, q, none⟩)] ?_
   refine Wl.ld (hv.cell 0 (.slice A l.length c) (by kernel_rfl)) underlying72 ?_
   refine pP [_] ?_
   refine cD func142 HIX.out ?_
   rintro e w1 ⟨rfl, hb1⟩
   refine cR ?_
   obtain ⟨hS1, hz1, hy1⟩ := zC hs0 hb1
   replace hp := hp.grow hb1
   replace hv := hv.grow hb1
   refine pQ [_] ?_
   have hst0 := Stp.of (base := base) (b := b) hb1
   clear hs0 hS1 hb1
   have hs1 := Below.refl 0 w1
   have hbz := hst0.size
   go_upto_region 2 with fail
   refine pS [_, .bool false] ?_
   go_upto_region 4 with fail
   refine pR [_, _, .pointer (some ⟨b, q, none⟩)] ?_
   refine Wl.ld (hv.cell 0 (.slice A l.length c) (by kernel_rfl)) underlying72 ?_
   refine pP [_, _, .agg #[.string k, .string x]] ?_
   refine Wl.step (fun K hK => ?_)
   refine step_new rfl (fun b => .slice (some ⟨b, 0, none⟩) 1 1) (#[.string k, .string x]) 145 (by kernel_rfl) ?_
   intro bn w2 bn_ge bn_lt hn hb2
   obtain ⟨hS2, hz2, hy2⟩ := zC hs1 hb2
   replace hp := hp.grow hb2
   replace hv := hv.grow hb2
   refine hK _ _ ?_
   clear hK K
   (try simp only [Act.put, zD, zE, zF])
   refine Wl.step (fun K hK => ?_)
   refine step_append_pv rfl _ _ rfl base _ l ⟨k, x⟩ (by kernel_rfl) ⟨bn, 0, none⟩ 1 (by kernel_rfl) (hn.cell 0 _ rfl) (hn.cell 1 _ rfl) hp (by omega) hlen ?_
   intro v1 w3 hp' hg
   have hv' := hv.grown hp hg hT
   have hst1 := (hst0.trans (Stp.of hb2)).trans (Stp.grown hp hg)
   have hS3 : Below 0 w1 w3 := ⟨hg.os.trans hS2.os, hg.tape.trans hS2.tape, hg.output.trans hS2.output, Nat.le_trans hS2.size hg.size, fun k hk => absurd hk (by omega)⟩
   obtain ⟨A1, c1, rfl⟩ := hp'.hps.shape
   have HV3 := Lib.hid hv'
   clear hp hg
   replace hv := hv'
   clear hv'
   clear hn
   refine hK _ _ ?_
   clear hK K
   (try simp only [Act.put, zD, zE, zF])
   refine pP [.pointer (some ⟨b, q, none⟩)] ?_
   refine Wl.step (fun K hK => ?_)
   refine sV b q 0 [.slice A1 (l ++ [(⟨k, x⟩ : PV)]).length c1] hv ?_
   intro w4 hv' hO4
   have hS4 := hS3.trans (hO4.below (by omega))
   have hz4 := hS4.size
   clear hv
   have hv := hv'
   clear hv'
   have hzz4 := hO4.size
   replace hO4 := Lib.hid hO4
   refine hK _ _ ?_
   clear hK K
   (try simp only [Act.put, zD, zE, zF])
   refine wN ?_
   go_upto_region 5 with fail
   refine pR [_, .pointer (some ⟨b, q, none⟩)] ?_
   refine Wl.ld (hv.cell 0 (.slice A1 (l ++ [(⟨k, x⟩ : PV)]).length c1) (by kernel_rfl)) underlying72 ?_
   refine pQ [_] ?_
   replace hp' := hp'.stay hO4.out HV3.out.blk hT
   go_wp2
   go_ret
   exact ⟨_, rfl, hv, by rw [HADD.out]; exact hp', hst1.trans (Stp.oth hO4.out)⟩
def eS : ByteArray := ⟨#[]⟩
def sipS : ByteArray := ⟨#[115, 105, 112]⟩
def sipsS : ByteArray := ⟨#[115, 105, 112, 115]⟩
def starS : ByteArray := ⟨#[42]⟩
structure Res where
 next : Nat
 str : ByteArray
 err : Bool
 u : SU
def isLet (c : Nat) : Bool := decide ((97 ≤ c ∧ c ≤ 122) ∨ (65 ≤ c ∧ c ≤ 90))
def fScheme (i c : Nat) (_ : Unit) : Option Nat ⊕ Unit := if c = 58 then .inl (some i) else if isLet c then .inr () else .inl none
def stScheme (u : SU) (s : ByteArray) : Res :=
 if s.size < 3 then (if s = starS then ⟨0, eS, false, { u with host := starS, star := true }⟩ else ⟨0, eS, true, u⟩) else
 match scanAt fScheme s 0 () with
 | .inl (some i) =>
   let sc := lowS (s.extract 0 i)
   if sc ≠ sipS ∧ sc ≠ sipsS then ⟨0, eS, false, { u with scheme := sc, raw := s.extract (i + 1) s.size }⟩
   else ⟨2, s.extract (i + 1) s.size, false, { u with scheme := sc }⟩
 | _ => ⟨0, eS, true, u⟩
def dslash (s : ByteArray) : Bool := decide (2 ≤ s.size ∧ gb s 0 = 47 ∧ gb s 1 = 47)
def stSlashes (u : SU) (s : ByteArray) : Res :=
 if dslash s then ⟨3, s.extract 2 s.size, false, { u with slashes := true }⟩ else ⟨3, s, false, { u with slashes := false }⟩
def fUser (i c : Nat) (e : Nat) : (Bool × Nat × Nat) ⊕ Nat :=
 if c = 91 then .inl (false, i, e) else if c = 58 then .inr i else if c = 64 then .inl (true, i, e) else .inr e
def stUser (u : SU) (s : ByteArray) : Res :=
 match scanAt fUser s 0 0 with
 | .inl (false, i, _) => ⟨4, s.extract i s.size, false, u⟩
 | .inl (true, i, e) =>
   if 0 < e then ⟨4, s.extract (i + 1) s.size, false, { u with user := s.extract 0 e, pass := s.extract (e + 1) i }⟩
   else ⟨4, s.extract (i + 1) s.size, false, { u with user := s.extract 0 i }⟩
 | .inr _ => ⟨4, s, false, u⟩
def fHost (i c : Nat) (_ : Unit) : (Nat × Nat) ⊕ Unit :=
 if c = 91 then .inl (5, i) else if c = 58 then .inl (6, i) else if c = 59 then .inl (7, i) else if c = 63 then .inl (8, i) else .inr ()
def stHost (u : SU) (s : ByteArray) : Res :=
 match scanAt fHost s 0 () with
 | .inl (k, i) => if k = 5 then ⟨5, s.extract i s.size, false, u⟩ else ⟨k, s.extract (i + 1) s.size, false, { u with host := s.extract 0 i }⟩
 | .inr _ => ⟨7, eS, false, { u with host := s, star := decide (s = starS) }⟩
def fBra (i c : Nat) (_ : Unit) : Nat ⊕ Unit := if c = 93 then .inl i else .inr ()
def braAt (s : ByteArray) : Option Nat := match scanAt fBra (s.extract 0 (min s.size 42)) 0 () with | .inl i => some i | .inr _ => none
def stIPV6 (u : SU) (s : ByteArray) : Res :=
 match braAt s with
 | none => ⟨0, s, true, u⟩
 | some 0 => ⟨0, s, true, u⟩
 | some (k + 1) =>
   let u' := { u with host := s.extract 0 (k + 2) }
   let t := s.extract (k + 2) s.size
   if k + 2 = s.size then ⟨7, eS, false, u'⟩
   else if gb t 0 = 58 then ⟨6, t.extract 1 t.size, false, u'⟩
   else if gb t 0 = 59 then ⟨7, t.extract 1 t.size, false, u'⟩
   else if gb t 0 = 63 then ⟨8, t.extract 1 t.size, false, u'⟩
   else ⟨7, eS, false, u'⟩
def fPort (i c : Nat) (_ : Unit) : (Nat × Nat) ⊕ Unit := if c = 59 then .inl (7, i) else if c = 63 then .inl (8, i) else .inr ()
def num? (s : ByteArray) : Option Int := match Lib.atoiAll s.data.toList with | .ok v => some v | _ => none
def stPort (u : SU) (s : ByteArray) : Res :=
 match scanAt fPort s 0 () with
 | .inl (k, i) => match num? (s.extract 0 i) with
   | some v => ⟨k, s.extract (i + 1) s.size, false, { u with port := v }⟩
   | none => ⟨k, s.extract (i + 1) s.size, true, u⟩
 | .inr _ => match num? s with
   | some v => ⟨7, eS, false, { u with port := v }⟩
   | none => ⟨7, eS, true, u⟩
def trimL (s : ByteArray) : ByteArray := Lib.trimLeftF Lib.isSpaceR s
def unmarshal (s : ByteArray) (sp en : Nat) (ps : List PV) : Nat × List PV := pread (trimL s) sp en ps
def stParams (u : SU) (s : ByteArray) : Res :=
 if s.size = 0 then ⟨0, s, false, { u with ps := [], hs := [] }⟩ else
 let r := unmarshal s 59 63 []
 let n := if r.1 = s.size then r.1 - 1 else r.1
 if gb s n = 63 then ⟨8, s.extract (n + 1) s.size, false, { u with ps := r.2 }⟩ else ⟨0, s, false, { u with ps := r.2 }⟩
def stHeaders (u : SU) (s : ByteArray) : Res := ⟨0, s, false, { u with hs := (unmarshal s 38 0 []).2 }⟩
def stepU (k : Nat) (u : SU) (s : ByteArray) : Res :=
 if k = 1 then stScheme u s else if k = 2 then stSlashes u s else if k = 3 then stUser u s else if k = 4 then stHost u s else if k = 5 then stIPV6 u s else if k = 6 then stPort u s else if k = 7 then stParams u s else stHeaders u s
def runU : Nat → Nat → SU → ByteArray → Option SU
 | 0, _, _, _ => none
 | f + 1, k, u, s => if k = 0 then some u else
   let r := stepU k u s
   if r.err then none else runU f r.next r.u r.str
def parseU (s : ByteArray) : Option SU := if s.size = 0 then none else runU 9 1 (default : SU) s
def itoaS (n : Int) : ByteArray := ⟨(Lib.itoa n).toArray⟩
theorem itoaS_size (n : Int) (h0 : -9223372036854775808 ≤ n) (h1 : n ≤ 9223372036854775807) : (itoaS n).size ≤ 21 := by
 have := Lib.itoa_length_le n h0 h1
 simpa [itoaS, ByteArray.size] using this
structure Env (w0 : World) : Prop where
 trim : ∀ (s : ByteArray) (w : World), Below w0.heap.size w0 w → s.size ≤ 100000000 → Calls Tryz.prog 126 #[.string s, .func (.func 127) #[] #[]] w fun e w' => e = .returned (.string (trimL s)) ∧ Below w.heap.size w w'
 atoi : ∀ (s : ByteArray) (w : World), Below w0.heap.size w0 w → s.size ≤ 100000000 → Calls Tryz.prog 113 #[.string s] w fun e w' => ∃ v ev, e = .returned (.tuple #[.int .i64 v, ev]) ∧ (-9223372036854775808 ≤ v ∧ v ≤ 9223372036854775807) ∧ (match num? s with | some n => v = n ∧ ev = .nilIface | none => ∃ t p, ev = .iface t p) ∧ Below w.heap.size w w'
 itoa : ∀ (n : Int) (w : World), Below w0.heap.size w0 w → -9223372036854775808 ≤ n → n ≤ 9223372036854775807 → Calls Tryz.prog 79 #[.int .i64 n] w fun e w' => e = .returned (.string (itoaS n)) ∧ Below w.heap.size w w'
theorem Env.mono {w0 w1 : World} (h : Env w0) (hb : Below w0.heap.size w0 w1) : Env w1 :=
 ⟨fun s w hw => h.trim s w (hb.trans (hw.mono hb.size)), fun s w hw => h.atoi s w (hb.trans (hw.mono hb.size)), fun n w hw => h.itoa n w (hb.trans (hw.mono hb.size))⟩
theorem trimL_size (s : ByteArray) : (trimL s).size ≤ s.size := by
 unfold trimL
 exact Go.Proofs.trimLeftF_size _ s
theorem oth_iter (w : World) (k : Nat) (s : ByteArray) (pos : Nat) : Oth k w (w.iterAt k s pos) := ⟨rfl, rfl, rfl, Lib.iterAt_size w k s pos, fun j hj => Lib.iterAt_other w k j s pos hj⟩
theorem step_next {P : Program} {ops : Array Oper} {o : Oper} {a : Act} {w : World} {K : Act → World → Prop} {Q : Exit → Act → World → Prop} {E : Prop} (hgd : o.guard = none) (x : Operand) (ho : o.op = .next x true)
 (k : Nat) (s : ByteArray) (pos : Nat) (hx : a.eval x = .pointer (some ⟨k, 0, none⟩)) (hk : w.heap[k]? = some (.stringIter s pos)) (hlt : pos < s.size)
 (h : ∀ W, W.heap[k]? = some (.stringIter s (pos + dw s pos)) → Oth k w W → K (a.put o.dst (.tuple #[.bool true, .int .i64 ((pos : Nat) : Int), .int .i32 ((dr s pos : Nat) : Int)])) W) : if Region.wanted o (yielded ops a.tmps) = true then Oper.wp P o a w K Q else E := by
 have hw : Region.wanted o (yielded ops a.tmps) = true := by simp [Region.wanted, hgd]
 rw [if_pos hw]
 unfold Oper.wp execOp
 simp only [ho, hx, Sem.run_bind, Sem.run_pure, Result.andThen_ok, Lib.run_next_any_at (P := P) w k s pos o.type hk hlt]
 exact h _ (Lib.iterAt_heap w k s pos _ hk) (oth_iter w k s _)
theorem step_next_end {P : Program} {ops : Array Oper} {o : Oper} {a : Act} {w : World} {K : Act → World → Prop} {Q : Exit → Act → World → Prop} {E : Prop} (hgd : o.guard = none) (x : Operand) (ho : o.op = .next x true)
 (k : Nat) (s : ByteArray) (pos : Nat) (hx : a.eval x = .pointer (some ⟨k, 0, none⟩)) (hk : w.heap[k]? = some (.stringIter s pos)) (hlt : ¬ pos < s.size)
 (h : ∀ W, w = W → K (a.put o.dst (.tuple #[.bool false])) W) : if Region.wanted o (yielded ops a.tmps) = true then Oper.wp P o a w K Q else E := by
 have hw : Region.wanted o (yielded ops a.tmps) = true := by simp [Region.wanted, hgd]
 rw [if_pos hw]
 unfold Oper.wp execOp
 simp only [ho, hx, Sem.run_bind, Sem.run_pure, Result.andThen_ok, Lib.run_next_end_at (P := P) w k s pos o.type hk hlt]
 exact h _ rfl
theorem Stp.fresh {base b k : Nat} {u v w : World} (h : Stp base b u v) (ho : Oth k v w) (hk : u.heap.size ≤ k) : Stp base b u w :=
 ⟨ho.os.trans h.os, ho.tape.trans h.tape, ho.output.trans h.output, by rw [ho.size]; exact h.size, fun j o e n q => by
  have hj : j < u.heap.size := (Array.getElem?_eq_some_iff.1 e).1
  rw [ho.block j (by omega)]
  exact h.block j o e n q⟩
theorem Stp.grow {base b : Nat} {u v w : World} (h : Stp base b u v) (hb : Below v.heap.size v w) : Stp base b u w := h.trans (Stp.of hb)
theorem Stp.sto {base b : Nat} {u v w : World} (h : Stp base b u v) (ho : Oth b v w) : Stp base b u w := h.trans (Stp.oth ho)
def Itr (w : World) (k : Nat) (s : ByteArray) (pos : Nat) : Prop := w.heap[k]? = some (.stringIter s pos)
theorem Itr.grow {w w' : World} {k : Nat} {s : ByteArray} {pos : Nat} (h : Itr w k s pos) (hb : Below w.heap.size w w') : Itr w' k s pos := (hb.block k (Array.getElem?_eq_some_iff.1 h).1).trans h
theorem Itr.stp {base b : Nat} {w w' : World} {k : Nat} {s : ByteArray} {pos : Nat} {o : Nat} {cs L R : List Value} {T : TypeId} (h : Itr w k s pos) (hs : Stp base b w w') (hv : VB w b o cs L R T) : Itr w' k s pos :=
 hs.block k _ h (by rintro rfl; have h2 := hv.blk; unfold Blk at h2; unfold Itr at h; rw [h] at h2; cases h2) (.inr (fun c fr e => by cases e))
theorem Itr.pos {w : World} {k : Nat} {s : ByteArray} {pos : Nat} (h : Itr w k s pos) : w.iterPos k = pos := by unfold World.iterPos; unfold Itr at h; rw [h]
theorem VB.iter {w W : World} {b o k pos : Nat} {s : ByteArray} {cs L R : List Value} {T : TypeId} (h : VB w b o cs L R T) (hk : w.heap[k]? = some (.stringIter s pos)) (ho : Oth k w W) : VB W b o cs L R T :=
 h.oth ho (by rintro rfl; have := h.blk; unfold Blk at this; rw [hk] at this; cases this)
theorem Pw.iter {base : Nat} {w W : World} {v : Value} {l : List PV} {k pos : Nat} {s : ByteArray} (h : Pw base w v l) (hk : w.heap[k]? = some (.stringIter s pos)) (ho : Oth k w W) : Pw base W v l := by
 obtain ⟨hl, h | ⟨g, cap, cur, rfl, hb', hh, r⟩⟩ := h
 ·exact ⟨hl, .inl h⟩
 ·exact ⟨hl, .inr ⟨g, cap, cur, rfl, hb', (ho.block g (by rintro rfl; rw [hk] at hh; cases hh)).trans hh, r⟩⟩
theorem dr_cases (s : ByteArray) (i : Nat) (h : i < s.size) : (gb s i < 128 ∧ dr s i = gb s i ∧ dw s i = 1) ∨ (128 ≤ gb s i ∧ 128 ≤ dr s i ∧ 1 ≤ dw s i ∧ i + dw s i ≤ s.size) := by
 by_cases ha : gb s i < 128
 ·have := dr_ascii s i h ha
  exact .inl ⟨ha, this.1, this.2⟩
 ·have h1 := dr_high s i h (by omega)
  exact .inr ⟨by omega, h1.1, h1.2, (dw_high s i h (by omega)).1⟩
theorem pscan_rune (s : ByteArray) (sp en : Nat) (hs : sp < 128) (he : en < 128) (i : Nat) (st : PS) (h : i < s.size) :
 scanAt (pstep s sp en) s i st = match pstep s sp en i (dr s i) st with
  | .inl r => .inl r
  | .inr st' => scanAt (pstep s sp en) s (i + dw s i) st' := by
 rcases dr_cases s i h with ⟨h1, h2, h3⟩ | ⟨h1, h2, _, _⟩
 ·rw [scanAt_step _ s i st h, h2, h3]
  cases pstep s sp en i (gb s i) st <;> rfl
 ·rw [pscan_high s sp en hs he i st h h1, pstep_high hs he i _ h2]
theorem pscan_go {s : ByteArray} {sp en : Nat} (hs : sp < 128) (he : en < 128) {i : Nat} {st st' : PS} {n0 : Nat} (h : i < s.size) (hi : PInv i st n0) (hp : pstep s sp en i (dr s i) st = .inr st') :
 i + dw s i ≤ s.size ∧ i < i + dw s i ∧ PInv (i + dw s i) st' n0 ∧ scanAt (pstep s sp en) s i st = scanAt (pstep s sp en) s (i + dw s i) st' := by
 have h1 := dw_le s i h
 have h2 := dw_pos s i h
 refine ⟨h1, by omega, (pstep_inv hi hp).mono (by omega), ?_⟩
 rw [pscan_rune s sp en hs he i st h, hp]
theorem pscan_stop {s : ByteArray} {sp en : Nat} (hs : sp < 128) (he : en < 128) {i : Nat} {st : PS} (h : i < s.size) (hp : dr s i = en) : scanAt (pstep s sp en) s i st = .inl (i, st) := by
 rw [pscan_rune s sp en hs he i st h]
 unfold pstep
 rw [if_pos hp]
section
variable {s : ByteArray} {sp en i c a b : Nat} {q : Int} {ps : List PV}
theorem pstep1 (hc : ¬ c = en) : pstep s sp en i c ⟨a, b, q, 1, ps⟩ = .inr ⟨i, 0, q, 2, ps⟩ := by simp [pstep, hc]
theorem pstep2s (hc : ¬ c = en) (h : c = sp) : pstep s sp en i c ⟨a, b, q, 2, ps⟩ = .inr ⟨a, b, q, 1, addPV ps (s.extract a i) ⟨#[]⟩⟩ := by subst h; simp [pstep, hc, sx]
theorem pstep2e (hc : ¬ c = en) (h : ¬ c = sp) (h2 : c = 61) : pstep s sp en i c ⟨a, b, q, 2, ps⟩ = .inr ⟨a, i, q, 3, ps⟩ := by subst h2; simp [pstep, hc, h]
theorem pstep2n (hc : ¬ c = en) (h : ¬ c = sp) (h2 : ¬ c = 61) : pstep s sp en i c ⟨a, b, q, 2, ps⟩ = .inr ⟨a, b, q, 2, ps⟩ := by simp [pstep, hc, h, h2]
theorem pstep3q (hc : ¬ c = en) (h : c = 34) : pstep s sp en i c ⟨a, b, q, 3, ps⟩ = .inr ⟨a, b, i, 4, ps⟩ := by subst h; simp [pstep, hc]
theorem pstep3s (hc : ¬ c = en) (h : ¬ c = 34) (h2 : c = sp) : pstep s sp en i c ⟨a, b, q, 3, ps⟩ = .inr ⟨b + 1, b, q, 1, addPV ps (s.extract a b) (s.extract (b + 1) i)⟩ := by subst h2; simp [pstep, hc, h, sx]
theorem pstep3n (hc : ¬ c = en) (h : ¬ c = 34) (h2 : ¬ c = sp) : pstep s sp en i c ⟨a, b, q, 3, ps⟩ = .inr ⟨a, b, q, 3, ps⟩ := by simp [pstep, hc, h, h2]
theorem pstep4q {n : Nat} (hc : ¬ c = en) (h : c = 34) : pstep s sp en i c ⟨a, b, (n : Nat), 4, ps⟩ = .inr ⟨a, b, (n : Nat), 1, addPV ps (s.extract a s.size) (s.extract (n + 1) i)⟩ := by subst h; simp [pstep, hc, sx]
theorem pstep4n (hc : ¬ c = en) (h : ¬ c = 34) : pstep s sp en i c ⟨a, b, q, 4, ps⟩ = .inr ⟨a, b, q, 4, ps⟩ := by simp [pstep, hc, h]
theorem pfinA {n st : Nat} (h1 : 0 < b) (h2 : a < b) : pfin s n ⟨a, b, q, st, ps⟩ = (n, addPV ps (s.extract a b) (s.extract (b + 1) n)) := by
 have : ¬ b = 0 := by omega
 simp [pfin, h1, h2, this, sx]
theorem pfinB {n st : Nat} (h1 : a < n) : pfin s n ⟨a, 0, q, st, ps⟩ = (n, addPV ps (s.extract a s.size) ⟨#[]⟩) := by simp [pfin, h1, sx]
theorem pfinC {n st : Nat} (h1 : ¬ a < n) : pfin s n ⟨a, 0, q, st, ps⟩ = (n, ps) := by simp [pfin, h1]
theorem pfinD {n st : Nat} (h1 : ¬ b = 0) (h2 : ¬ (0 < b ∧ a < b)) : pfin s n ⟨a, b, q, st, ps⟩ = (n, ps) := by simp [pfin, h1, h2]
end
end Go.Proofs.YtfcllhdhfenmcaaGreatDoor
