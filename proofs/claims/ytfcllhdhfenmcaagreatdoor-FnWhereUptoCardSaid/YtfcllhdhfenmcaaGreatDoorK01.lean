/- Part 1 of the proof: laws and walks (merged by a program). -/
import Derived.Handy
import Derived.Lib.OthersKept
import Derived.Laws.RangeAny
import Derived.Test.YtfcllhdhfenmcaaGreatDoorProg
import Derived.WalkKit
import Derived.WalkSpells
import Derived.WalkLawsBesides
import Derived.Outline
import Derived.Lib.Hide
import Derived.Deep.QuietTactic
import Derived.BigQuiet
import Derived.RegionTactic
import Derived.Deep.Light
import Derived.Deep.WholeRow
import Derived.Below
import Derived.Laws.Tables
import Derived.Deep.RegionHeld3
set_option linter.all false
set_option maxHeartbeats 8000000
set_option maxRecDepth 100000
namespace Go.Proofs.YtfcllhdhfenmcaaGreatDoor
open Go.RowKit Go.Proofs.Tryz
def gb (s : ByteArray) (i : Nat) : Nat := (s.get! i).toNat
theorem gb_lt (s : ByteArray) (i : Nat) : gb s i < 256 := by unfold gb; exact (s.get! i).toNat_lt
theorem gb_at (s : ByteArray) (i : Nat) (h : i < s.size) : gb s i = (s[i]'h).toNat := by
 unfold gb
 congr 1
 simp [ByteArray.get!, getElem!_pos, h]
 rfl
def dr (s : ByteArray) (i : Nat) : Nat := (Utf8.decode s i).1
def dw (s : ByteArray) (i : Nat) : Nat := (Utf8.decode s i).2
theorem dr_le (s : ByteArray) (i : Nat) : dr s i ≤ 2147483647 := decode_le s i
theorem dr_ascii (s : ByteArray) (i : Nat) (h : i < s.size) (ha : gb s i < 128) : dr s i = gb s i ∧ dw s i = 1 := by
 rw [gb_at s i h] at ha
 unfold dr dw
 rw [decode_ascii s i h ha, gb_at s i h]
 exact ⟨rfl, rfl⟩
theorem dr_high (s : ByteArray) (i : Nat) (h : i < s.size) (ha : 128 ≤ gb s i) : 128 ≤ dr s i ∧ 1 ≤ dw s i := by
 rw [gb_at s i h] at ha
 exact decode_high s i h ha
theorem dw_pos (s : ByteArray) (i : Nat) (h : i < s.size) : 1 ≤ dw s i := by
 by_cases ha : gb s i < 128
 ·rw [(dr_ascii s i h ha).2]; exact Nat.le_refl _
 ·exact (dr_high s i h (by omega)).2
theorem dw_high (s : ByteArray) (i : Nat) (h : i < s.size) (ha : 128 ≤ gb s i) : i + dw s i ≤ s.size ∧ ∀ j, i ≤ j → j < i + dw s i → 128 ≤ gb s j := by
 have hc : ∀ k, (decide (i + k < s.size) && ((s.get! (i + k)).toNat / 64 == 2)) = true → i + k < s.size ∧ 128 ≤ gb s (i + k) := by
  intro k hk
  simp only [Bool.and_eq_true, decide_eq_true_eq, beq_iff_eq] at hk
  exact ⟨hk.1, by unfold gb; omega⟩
 have one : i + 1 ≤ s.size ∧ ∀ j, i ≤ j → j < i + 1 → 128 ≤ gb s j := by
  refine ⟨by omega, fun j h1 h2 => ?_⟩
  obtain rfl : j = i := by omega
  exact ha
 unfold dw
 simp only [Utf8.decode]
 split
 ·exact one
 split
 ·rename_i _ hb
  simp only [Bool.and_eq_true] at hb
  have h1 := hc 1 (by simpa using hb.2)
  split
  ·refine ⟨by omega, fun j hj hk => ?_⟩
   rcases (show j = i ∨ j = i + 1 by omega) with rfl | rfl
   ·exact ha
   ·exact h1.2
  ·exact one
 split
 ·rename_i _ _ hb
  simp only [Bool.and_eq_true] at hb
  have h1 := hc 1 (by simpa using hb.1.2)
  have h2 := hc 2 (by simpa using hb.2)
  split
  ·refine ⟨by omega, fun j hj hk => ?_⟩
   rcases (show j = i ∨ j = i + 1 ∨ j = i + 2 by omega) with rfl | rfl | rfl
   ·exact ha
   ·exact h1.2
   ·exact h2.2
  ·exact one
 split
 ·rename_i _ _ _ hb
  simp only [Bool.and_eq_true] at hb
  have h1 := hc 1 (by simpa using hb.1.1.2)
  have h2 := hc 2 (by simpa using hb.1.2)
  have h3 := hc 3 (by simpa using hb.2)
  split
  ·refine ⟨by omega, fun j hj hk => ?_⟩
   rcases (show j = i ∨ j = i + 1 ∨ j = i + 2 ∨ j = i + 3 by omega) with rfl | rfl | rfl | rfl
   ·exact ha
   ·exact h1.2
   ·exact h2.2
   ·exact h3.2
  ·exact one
 ·exact one
theorem dw_le (s : ByteArray) (i : Nat) (h : i < s.size) : i + dw s i ≤ s.size := by
 by_cases ha : gb s i < 128
 ·rw [(dr_ascii s i h ha).2]; omega
 ·exact (dw_high s i h (by omega)).1
def scan {σ ρ : Type} (f : Nat → Nat → σ → ρ ⊕ σ) : List UInt8 → Nat → σ → ρ ⊕ σ
 | [], _, st => .inr st
 | c :: t, i, st => match f i c.toNat st with
   | .inl r => .inl r
   | .inr st' => scan f t (i + 1) st'
def scanAt {σ ρ : Type} (f : Nat → Nat → σ → ρ ⊕ σ) (s : ByteArray) (i : Nat) (st : σ) : ρ ⊕ σ := scan f (s.data.toList.drop i) i st
theorem scanAt_end {σ ρ : Type} (f : Nat → Nat → σ → ρ ⊕ σ) (s : ByteArray) (i : Nat) (st : σ) (h : ¬ i < s.size) : scanAt f s i st = .inr st := by
 unfold scanAt
 rw [List.drop_eq_nil_of_le (by simp at h ⊢; omega)]
 rfl
theorem scanAt_step {σ ρ : Type} (f : Nat → Nat → σ → ρ ⊕ σ) (s : ByteArray) (i : Nat) (st : σ) (h : i < s.size) :
 scanAt f s i st = match f i (gb s i) st with
  | .inl r => .inl r
  | .inr st' => scanAt f s (i + 1) st' := by
 unfold scanAt
 have hl : i < s.data.toList.length := by simpa using h
 rw [List.drop_eq_getElem_cons hl, scan, gb_at s i h]
 rfl
theorem scanAt_high {σ ρ : Type} (f : Nat → Nat → σ → ρ ⊕ σ) (hf : ∀ i c st, 128 ≤ c → f i c st = .inr st) (s : ByteArray) (st : σ) :
 ∀ (d i : Nat), i + d ≤ s.size → (∀ j, i ≤ j → j < i + d → 128 ≤ gb s j) → scanAt f s i st = scanAt f s (i + d) st := by
 intro d
 induction d with
 | zero => intro i _ _; rfl
 | succ d ih =>
   intro i hi hb
   rw [scanAt_step f s i st (by omega), hf i _ st (hb i (Nat.le_refl _) (by omega))]
   simp only []
   rw [ih (i + 1) (by omega) (fun j h1 h2 => hb j (by omega) (by omega))]
   congr 1
   omega
theorem scanAt_rune {σ ρ : Type} (f : Nat → Nat → σ → ρ ⊕ σ) (hf : ∀ i c st, 128 ≤ c → f i c st = .inr st) (s : ByteArray) (i : Nat) (st : σ) (h : i < s.size) :
 (gb s i < 128 ∧ dr s i = gb s i ∧ dw s i = 1 ∧ scanAt f s i st = match f i (gb s i) st with
  | .inl r => .inl r
  | .inr st' => scanAt f s (i + 1) st')
 ∨ (128 ≤ dr s i ∧ 1 ≤ dw s i ∧ i + dw s i ≤ s.size ∧ scanAt f s i st = scanAt f s (i + dw s i) st) := by
 by_cases ha : gb s i < 128
 ·have := dr_ascii s i h ha
  exact .inl ⟨ha, this.1, this.2, scanAt_step f s i st h⟩
 ·have h1 := dr_high s i h (by omega)
  have h2 := dw_high s i h (by omega)
  exact .inr ⟨h1.1, h1.2, h2.1, scanAt_high f hf s st _ i h2.1 h2.2⟩
section
variable {P : Program}
theorem next_rune (w : World) (s : ByteArray) (pos : Nat) (ty : TypeId) (h : pos < s.size) :
 (Instr.next (.pointer (some ⟨w.heap.size, 0, none⟩)) true ty).run P (w.iter s pos) =
  .ok (.tuple #[.bool true, .int .i64 pos, .int .i32 (dr s pos)]) (w.iter s (pos + dw s pos)) := by
 rw [Lib.run_next_any_at (w.iter s pos) w.heap.size s pos ty (World.iter_heap w s pos) h]
 congr 1
 exact World.iter_set w s pos _
end
end Go.Proofs.YtfcllhdhfenmcaaGreatDoor
namespace Go.Proofs.YtfcllhdhfenmcaaGreatDoor
open Go.RowKit Go.Proofs.Tryz
section
variable {P : Program}
theorem isAgg_of {ty : TypeId} {d : TypeDesc} (hu : P.underlying ty = some d) (hd : (match d with | .struct _ | .array _ _ => true | _ => false) = true) (w : World) : (isAgg ty).run P w = .ok true w := by
 unfold isAgg
 rw [Sem.run_bind, run_underlying hu w]
 cases d <;> simp_all
theorem add_none (b o j : Nat) : (⟨b, o, none⟩ : Addr).add j = ⟨b, o + j, none⟩ := by unfold Addr.add; split <;> simp_all
theorem run_loadVar_agg (w : World) (b o : Nat) (ty : TypeId) (cs : Array Value) (d : TypeDesc) (hc : ∀ j v, cs[j]? = some v → w.cell? ⟨b, o + j, none⟩ = some v)
 (hu : P.underlying ty = some d) (hd : (match d with | .struct _ | .array _ _ => true | _ => false) = true) (hi : (P.info? ty).map (·.size) = some cs.size) :
 (loadVar ty ⟨b, o, none⟩).run P w = .ok (.agg cs) w := by
 have hl : (loadCells ⟨b, o, none⟩ cs.toList.length).run P w = .ok cs.toList.toArray w :=
  run_loadCells_list (P := P) w ⟨b, o, none⟩ cs.toList (fun j v hv => by
   rw [add_none]
   exact hc j v (by simpa using hv))
 cases hq : P.info? ty with
 | none => simp [hq] at hi
 | some i =>
   have hs : i.size = cs.size := by simpa [hq] using hi
   simp only [Array.length_toList, Array.toArray_toList] at hl
   simp [loadVar, Sem.run_bind, isAgg_of hu hd, sizeOf, typeInfo, hq, hs, hl]
theorem wpList_load_agg {ops : Array Oper} {rest : List Oper} {o : Oper} {a : Act} {w : World} {Q : Exit → Act → World → Prop} (hgd : o.guard = none) (ty : TypeId) (x : Operand) (ho : o.op = .load ty x)
 (b off : Nat) (hx : a.eval x = .pointer (some ⟨b, off, none⟩)) (cs : Array Value) (d : TypeDesc) (hu : P.underlying ty = some d)
 (hd : (match d with | .struct _ | .array _ _ => true | _ => false) = true) (hi : (P.info? ty).map (·.size) = some cs.size)
 (hc : ∀ j v, cs[j]? = some v → w.cell? ⟨b, off + j, none⟩ = some v)
 (h : wpList P ops Q rest (a.put o.dst (.agg cs)) w) : wpList P ops Q (o :: rest) a w :=
 wpList_plain hgd fun K hK => by
  unfold Oper.wp execOp
  simp only [ho, hx, Instr.loadAt, Instr.sureAddr, Sem.run_bind, Sem.run_pure, Result.andThen_ok, run_loadVar_agg w b off ty cs d hc hu hd hi]
  exact hK _ _ h
theorem wpList_load_agg_g {ops : Array Oper} {rest : List Oper} {o : Oper} {a : Act} {w : World} {Q : Exit → Act → World → Prop} (hw : Region.wanted o (yielded ops a.tmps) = true) (ty : TypeId) (x : Operand) (ho : o.op = .load ty x)
 (b off : Nat) (hx : a.eval x = .pointer (some ⟨b, off, none⟩)) (cs : Array Value) (d : TypeDesc) (hu : P.underlying ty = some d)
 (hd : (match d with | .struct _ | .array _ _ => true | _ => false) = true) (hi : (P.info? ty).map (·.size) = some cs.size)
 (hc : ∀ j v, cs[j]? = some v → w.cell? ⟨b, off + j, none⟩ = some v)
 (h : wpList P ops Q rest (a.put o.dst (.agg cs)) w) : wpList P ops Q (o :: rest) a w :=
 wpList_step fun K hK => by
  rw [if_pos hw]
  unfold Oper.wp execOp
  simp only [ho, hx, Instr.loadAt, Instr.sureAddr, Sem.run_bind, Sem.run_pure, Result.andThen_ok, run_loadVar_agg w b off ty cs d hc hu hd hi]
  exact hK _ _ h
theorem wpList_store_agg {ops : Array Oper} {rest : List Oper} {o : Oper} {a : Act} {w : World} {Q : Exit → Act → World → Prop} (hgd : o.guard = none) (ty : TypeId) (x y : Operand) (ho : o.op = .store ty x y)
 (c c' : Array Value) (hx : a.eval x = .pointer (some ⟨w.heap.size, 0, none⟩)) (hy : a.eval y = .agg c')
 (hi : (P.info? ty).map (·.size) = some c'.size) (hcc : c.size = c'.size) (h1 : c'.all (·.oneCell') = true)
 (h : wpList P ops Q rest (a.put o.dst undef) (w.alloc (.cells c' ty))) : wpList P ops Q (o :: rest) a (w.alloc (.cells c ty)) :=
 wpList_plain hgd fun K hK => by
  unfold Oper.wp execOp
  have := run_storeAt_new (P := P) w ty c c' hi hcc h1
  simp only [Instr.storeAt, Instr.sureAddr, Sem.run_bind, Sem.run_pure, Result.andThen_ok] at this
  simp only [ho, hx, hy, Instr.storeAt, Instr.sureAddr, Sem.run_bind, Sem.run_pure, Result.andThen_ok, this]
  exact hK _ _ h
end
def isRow (w : World) (b : Nat) (T : TypeId) (k : Nat) : Prop := ∃ c, w.heap[b]? = some (.cells c T (0, 0)) ∧ c.size = k
theorem isRow.below {w w' : World} {b k : Nat} {T : TypeId} (h : isRow w b T k) {B : Nat} (hB : b < B) (hb : Below B w w') : isRow w' b T k := by
 obtain ⟨c, h1, h2⟩ := h
 exact ⟨c, (hb.block b hB).trans h1, h2⟩
theorem isRow.lt {w : World} {b k : Nat} {T : TypeId} (h : isRow w b T k) : b < w.heap.size := by
 obtain ⟨c, h1, _⟩ := h
 exact (Array.getElem?_eq_some_iff.1 h1).1
theorem isRow.grow {w w' : World} {b k : Nat} {T : TypeId} (h : isRow w b T k) (hb : Below w.heap.size w w') : isRow w' b T k := h.below h.lt hb
theorem isRow.drew {w : World} {b k : Nat} {T : TypeId} (h : isRow w b T k) : isRow w.drew b T k := h
theorem isRow_alloc (w : World) (c : Array Value) (T : TypeId) : isRow (w.alloc (.cells c T)) w.heap.size T c.size := ⟨c, heap_alloc_new w _, rfl⟩
theorem isRow_set {w : World} {b k : Nat} {T : TypeId} (h : isRow w b T k) (c : Array Value) (hc : c.size = k) : isRow (w.setRow b c) b T k := by
 obtain ⟨c0, h1, h2⟩ := h
 exact ⟨c, setRow_heap w b c0 c T _ h1, hc⟩
theorem setRow_size (w : World) (b : Nat) (c : Array Value) : (w.setRow b c).heap.size = w.heap.size := by simp [World.setRow]
theorem setRow_other (w : World) (b k : Nat) (c : Array Value) (h : k ≠ b) : (w.setRow b c).heap[k]? = w.heap[k]? := by
 simp only [World.setRow, Array.getElem?_modify]
 rw [if_neg (by omega)]
theorem below_setRow (B : Nat) (w : World) (b : Nat) (c : Array Value) (h : B ≤ b) : Below B w (w.setRow b c) :=
 ⟨rfl, rfl, rfl, by rw [setRow_size]; exact Nat.le_refl _, fun k hk => setRow_other w b k c (by omega)⟩
section
variable {P : Program}
theorem step_store_row {ops : Array Oper} {o : Oper} {a : Act} {w : World} {K : Act → World → Prop} {Q : Exit → Act → World → Prop} {E : Prop} (hgd : o.guard = none) (ty : TypeId) (x y : Operand) (ho : o.op = .store ty x y)
 (g : Nat) (cells : Array Value) (hx : a.eval x = .pointer (some ⟨g, 0, none⟩)) (hy : a.eval y = .agg cells) (t : TypeId)
 (hg : isRow w g t cells.size) (hi : (P.info? ty).map (·.size) = some cells.size) (h1 : cells.all (·.oneCell') = true)
 (h : K (a.put o.dst undef) (w.setRow g cells)) : if Region.wanted o (yielded ops a.tmps) = true then Oper.wp P o a w K Q else E := by
 have hw : Region.wanted o (yielded ops a.tmps) = true := by simp [Region.wanted, hgd]
 rw [if_pos hw]
 obtain ⟨old, h2, h3⟩ := hg
 exact wp_store_row ty x y ho g cells hx hy t old h2 hi h3 h1 h
end
def Blk (w : World) (b : Nat) (C : Array Value) (T : TypeId) : Prop := w.heap[b]? = some (.cells C T (0, 0))
theorem Blk.lt {w : World} {b : Nat} {C : Array Value} {T : TypeId} (h : Blk w b C T) : b < w.heap.size := (Array.getElem?_eq_some_iff.1 h).1
theorem Blk.grow {w w' : World} {b : Nat} {C : Array Value} {T : TypeId} (h : Blk w b C T) (hb : Below w.heap.size w w') : Blk w' b C T := (hb.block b h.lt).trans h
theorem Blk.row {w : World} {b : Nat} {C : Array Value} {T : TypeId} (h : Blk w b C T) : isRow w b T C.size := ⟨C, h, rfl⟩
theorem Blk.set {w : World} {b : Nat} {C : Array Value} {T : TypeId} (h : Blk w b C T) (C' : Array Value) : Blk (w.setRow b C') b C' T := setRow_heap w b C C' T _ h
theorem Blk.cell {w : World} {b : Nat} {C : Array Value} {T : TypeId} (h : Blk w b C T) (j : Nat) (v : Value) (hv : C[j]? = some v) : w.cell? ⟨b, j, none⟩ = some v := by rw [cell_of_row _ _ _ C T (0, 0) h]; exact hv
theorem Blk.cells {w : World} {b : Nat} {C : Array Value} {T : TypeId} (h : Blk w b C T) (j : Nat) (v : Value) (hv : C[j]? = some v) : w.cell? ⟨b, 0 + j, none⟩ = some v := by rw [Nat.zero_add]; exact h.cell j v hv
theorem Blk.new (w : World) (C : Array Value) (T : TypeId) : Blk (w.alloc (.cells C T)) w.heap.size C T := heap_alloc_new w _
theorem below_alloc1 (w : World) (o : Obj) : Below w.heap.size w (w.alloc o) := (Below.refl _ _).alloc (Nat.le_refl _) o
theorem below_drew1 (w : World) : Below w.heap.size w w.drew := ⟨rfl, rfl, rfl, Nat.le_refl _, fun _ _ => rfl⟩
section
variable {P : Program} {ops : Array Oper} {S : World → Prop} {o : Oper} {a : Act} {v : Value}
theorem yf_run (hw : Region.wanted o (yielded ops a.tmps) = true) (h : ∀ w, S w → (execOp a.eval o).run P w = .ok (.value v) w) : YieldsIf P ops S o v a := .inl ⟨hw, h⟩
theorem isAgg_not {ty : TypeId} {d : TypeDesc} (hu : P.underlying ty = some d) (hd : (match d with | .struct _ | .array _ _ => true | _ => false) = false) (w : World) : (isAgg ty).run P w = .ok false w := by
 unfold isAgg
 rw [Sem.run_bind, run_underlying hu w]
 cases d <;> simp_all
theorem run_loadVar_cell {ty : TypeId} {d : TypeDesc} (hu : P.underlying ty = some d) (hd : (match d with | .struct _ | .array _ _ => true | _ => false) = false) (w : World) (p : Addr) (hc : w.cell? p = some v) :
 (loadVar ty p).run P w = .ok v w := by
 simp [loadVar, Sem.run_bind, isAgg_not hu hd, hc]
theorem run_load_cell {ty : TypeId} {d : TypeDesc} {x : Operand} (ho : o.op = .load ty x) (p : Addr) (hx : a.eval x = .pointer (some p)) (hu : P.underlying ty = some d)
 (hd : (match d with | .struct _ | .array _ _ => true | _ => false) = false) (w : World) (hc : w.cell? p = some v) : (execOp a.eval o).run P w = .ok (.value v) w := by
 unfold execOp
 simp only [ho, hx, Instr.loadAt, Instr.sureAddr, Sem.run_bind, Sem.run_pure, Result.andThen_ok, run_loadVar_cell hu hd w p hc]
theorem yf_load (hw : Region.wanted o (yielded ops a.tmps) = true) (ty : TypeId) (x : Operand) (ho : o.op = .load ty x) (p : Addr) (hx : a.eval x = .pointer (some p)) (d : TypeDesc) (hu : P.underlying ty = some d)
 (hd : (match d with | .struct _ | .array _ _ => true | _ => false) = false) (hc : ∀ w, S w → w.cell? p = some v) : YieldsIf P ops S o v a :=
 .inl ⟨hw, fun w h => run_load_cell ho p hx hu hd w (hc w h)⟩
theorem yf_load_agg (hw : Region.wanted o (yielded ops a.tmps) = true) (ty : TypeId) (x : Operand) (ho : o.op = .load ty x) (b off : Nat) (hx : a.eval x = .pointer (some ⟨b, off, none⟩)) (cs : Array Value) (d : TypeDesc) (hu : P.underlying ty = some d)
 (hd : (match d with | .struct _ | .array _ _ => true | _ => false) = true) (hi : (P.info? ty).map (·.size) = some cs.size) (hc : ∀ w, S w → ∀ j v, cs[j]? = some v → w.cell? ⟨b, off + j, none⟩ = some v) : YieldsIf P ops S o (.agg cs) a :=
 .inl ⟨hw, fun w h => by
  unfold execOp
  simp only [ho, hx, Instr.loadAt, Instr.sureAddr, Sem.run_bind, Sem.run_pure, Result.andThen_ok, run_loadVar_agg w b off ty cs d (hc w h) hu hd hi]⟩
theorem yf_conv (hw : Region.wanted o (yielded ops a.tmps) = true) (src dst : TypeId) (x : Operand) (ho : o.op = .convert src dst x) (u : Value) (hx : a.eval x = u)
 (h : ∀ w, S w → (convert src dst u).run P w = .ok v w) : YieldsIf P ops S o v a :=
 .inl ⟨hw, fun w hw' => by
  unfold execOp
  simp only [ho, hx, Sem.run_bind, Sem.run_pure, Result.andThen_ok, h w hw']⟩
theorem step_call {w : World} {K : Act → World → Prop} {Q : Exit → Act → World → Prop} {E : Prop} (hgd : o.guard = none) (f : FuncId) (xs : Array Operand) (ats : Array TypeId) {fn : Func} (hf : P.funcs[f]? = some fn) (hn : (fn.name == "runtime.NumGoroutine") = false) (hb : fn.body.isNone = false)
 (ho : o.op = .call { callee := .value (.func f), args := xs, argTypes := ats }) (vals : Array Value) (hv : xs.map a.eval = vals) {R : Ending → World → Prop} (hc : Calls P f vals w R)
 (h : ∀ e w', R e w' → ∃ v, e = .returned v ∧ K (a.put o.dst v) w') : if Region.wanted o (yielded ops a.tmps) = true then Oper.wp P o a w K Q else E := by
 have hw : Region.wanted o (yielded ops a.tmps) = true := by simp [Region.wanted, hgd]
 rw [if_pos hw]
 have he : (execOp a.eval o).run P w = .ok (.enter f vals) w := by
  obtain ⟨dst, op, ty, pos, af, gd⟩ := o
  simp only at ho
  subst ho
  rw [execOp_call_go, hv]
  unfold callFunc
  simp only [Sem.run_bind, List.append_toArray, List.nil_append, Array.append_empty, Array.empty_append]
  show Result.andThen (.ok P w) _ = _
  simp only [Result.andThen_ok, hf, hn, hb]
  rfl
 unfold Oper.wp
 rw [he, Oper.upon_enter]
 refine hc.mono fun e w' hr => ?_
 obtain ⟨v, rfl, hk⟩ := h e w' hr
 exact hk
theorem step_store_one {w : World} {K : Act → World → Prop} {Q : Exit → Act → World → Prop} {E : Prop} (hgd : o.guard = none) (ty : TypeId) (x y : Operand) (ho : o.op = .store ty x y)
 (g : Nat) (v : Value) (hx : a.eval x = .pointer (some ⟨g, 0, none⟩)) (hy : a.eval y = v) (t : TypeId)
 (hg : isRow w g t 1) (hi : (P.info? ty).map (·.size) = some 1) (h1 : v.oneCell' = true)
 (h : K (a.put o.dst undef) (w.setRow g #[v])) : if Region.wanted o (yielded ops a.tmps) = true then Oper.wp P o a w K Q else E := by
 have hw : Region.wanted o (yielded ops a.tmps) = true := by simp [Region.wanted, hgd]
 rw [if_pos hw]
 obtain ⟨old, h2, h3⟩ := hg
 obtain ⟨old, rfl⟩ : ∃ z, old = #[z] := ⟨old[0]'(by omega), by
  apply Array.ext
  ·simp [h3]
  ·intro i hi1 hi2
   have : i = 0 := by omega
   subst this
   rfl⟩
 have hs := run_storeCells_from (P := P) g t [v] 0 #[old] w h2 (by simp) (fun z hz => by simp at hz; subst hz; exact h1)
 have hc : v.cells = #[v] := by cases v <;> first | rfl | cases h1
 have hr : (storeVar ty ⟨g, 0, none⟩ v).run P w = .ok () (w.setRow g #[v]) := by
  cases hq : P.info? ty with
  | none => simp [hq] at hi
  | some i =>
    have hs' : i.size = 1 := by simpa [hq] using hi
    simp only [List.take_zero, List.nil_append] at hs
    simp [storeVar, sizeOf, typeInfo, hq, hc, hs', hs]
 unfold Oper.wp execOp
 simp only [ho, hx, hy, Instr.storeAt, Instr.sureAddr, Sem.run_bind, Sem.run_pure, Result.andThen_ok, hr]
 exact h
theorem step_new {w : World} {K : Act → World → Prop} {Q : Exit → Act → World → Prop} {E : Prop} (hgd : o.guard = none) (f : Nat → Value) (C : Array Value) (T : TypeId)
 (hr : (execOp a.eval o).run P w = .ok (.value (f w.heap.size)) (w.alloc (.cells C T)))
 (h : ∀ b W, w.heap.size ≤ b → b < W.heap.size → Blk W b C T → Below w.heap.size w W → K (a.put o.dst (f b)) W) : if Region.wanted o (yielded ops a.tmps) = true then Oper.wp P o a w K Q else E := by
 have hw : Region.wanted o (yielded ops a.tmps) = true := by simp [Region.wanted, hgd]
 rw [if_pos hw]
 unfold Oper.wp
 rw [hr, Oper.upon_value]
 exact h _ _ (Nat.le_refl _) (by simp) (heap_alloc_new w _) (below_alloc1 w _)
theorem wl_step {w : World} {Q : Exit → Act → World → Prop} {rest : List Oper}
 (h : ∀ K : Act → World → Prop, (∀ a w, wpList P ops Q rest a w → K a w) → if Region.wanted o (yielded ops a.tmps) = true then o.wp P a w K Q else K (a.put o.dst undef) w) : wpList P ops Q (o :: rest) a w := wpList_step h
theorem wl_yf {w : World} {Q : Exit → Act → World → Prop} {rest : List Oper} (hS : S w) (hy : YieldsIf P ops S o v a) (h : wpList P ops Q rest (a.put o.dst v) w) : wpList P ops Q (o :: rest) a w :=
 wpList_step fun K hK => by
  rcases hy with ⟨hw, hv⟩ | ⟨hw, rfl⟩
  ·rw [if_pos hw]
   unfold Oper.wp
   rw [hv w hS, Oper.upon_value]
   exact hK _ _ h
  ·rw [hw, if_neg (by simp)]
   exact hK _ _ h
theorem Blk.sub {w : World} {b : Nat} {C : Array Value} {T : TypeId} (h : Blk w b C T) (off : Nat) (cs : Array Value) (hcs : (C.toList.drop off).take cs.size = cs.toList) (j : Nat) (v : Value) (hv : cs[j]? = some v) : w.cell? ⟨b, off + j, none⟩ = some v := by
 refine h.cell _ v ?_
 have hj : j < cs.size := (Array.getElem?_eq_some_iff.1 hv).1
 rw [← Array.getElem?_toList, ← hcs, List.getElem?_take_of_lt hj, List.getElem?_drop] at hv
 rwa [← Array.getElem?_toList]
structure Oth (g : Nat) (w W : World) : Prop where
 os : W.os = w.os
 tape : W.tape = w.tape
 output : W.output = w.output
 size : W.heap.size = w.heap.size
 block : ∀ k, k ≠ g → W.heap[k]? = w.heap[k]?
theorem Oth.below {g : Nat} {w W : World} (h : Oth g w W) {B : Nat} (hB : B ≤ g) : Below B w W := ⟨h.os, h.tape, h.output, Nat.le_of_eq h.size.symm, fun k hk => h.block k (by omega)⟩
theorem Blk.oth {g k : Nat} {w W : World} {C : Array Value} {T : TypeId} (h : Blk w k C T) (ho : Oth g w W) (hne : k ≠ g) : Blk W k C T := (ho.block k hne).trans h
theorem oth_setRow (w : World) (g : Nat) (c : Array Value) : Oth g w (w.setRow g c) := ⟨rfl, rfl, rfl, setRow_size w g c, fun k hk => setRow_other w g k c hk⟩
theorem step_store_at {w : World} {K : Act → World → Prop} {Q : Exit → Act → World → Prop} {E : Prop} (hgd : o.guard = none) (ty : TypeId) (x y : Operand) (ho : o.op = .store ty x y)
 (g off : Nat) (vs : List Value) (C C' : Array Value) (T : TypeId) (hx : a.eval x = .pointer (some ⟨g, off, none⟩)) (hy : (a.eval y).cells.toList = vs) (hi : (P.info? ty).map (·.size) = some vs.length)
 (h1 : vs.all (·.oneCell') = true) (hb : Blk w g C T) (hle : decide (off + vs.length ≤ C.size) = true) (hC : (C.toList.take off ++ vs ++ C.toList.drop (off + vs.length)).toArray = C')
 (h : ∀ W, Blk W g C' T → Oth g w W → K (a.put o.dst undef) W) : if Region.wanted o (yielded ops a.tmps) = true then Oper.wp P o a w K Q else E := by
 have hw : Region.wanted o (yielded ops a.tmps) = true := by simp [Region.wanted, hgd]
 rw [if_pos hw]
 subst hC
 have hle' : off + vs.length ≤ C.size := by simpa using hle
 have hs := run_storeCells_at (P := P) g off T vs 0 C w hb (by omega) (fun v hv => List.all_eq_true.1 h1 v hv)
 rw [Nat.add_zero] at hs
 have hr : (storeVar ty ⟨g, off, none⟩ (a.eval y)).run P w = .ok () (w.setRow g (C.toList.take off ++ vs ++ C.toList.drop (off + vs.length)).toArray) := by
  cases hq : P.info? ty with
  | none => simp [hq] at hi
  | some i =>
    have hs' : i.size = vs.length := by simpa [hq] using hi
    have hl : (a.eval y).cells.size = vs.length := by rw [← hy]; simp
    simp [storeVar, sizeOf, typeInfo, hq, hl, hs', hy, hs]
 unfold Oper.wp execOp
 simp only [ho, hx, Instr.storeAt, Instr.sureAddr, Sem.run_bind, Sem.run_pure, Result.andThen_ok, hr]
 exact h _ (hb.set _) (oth_setRow w g _)
theorem step_enter {w : World} {K : Act → World → Prop} {Q : Exit → Act → World → Prop} {E : Prop} (hgd : o.guard = none) (f : FuncId) (vals : Array Value)
 (hr : (execOp a.eval o).run P w = .ok (.enter f vals) w) {R : Ending → World → Prop} (hc : Calls P f vals w R)
 (h : ∀ e w', R e w' → ∃ v, e = .returned v ∧ K (a.put o.dst v) w') : if Region.wanted o (yielded ops a.tmps) = true then Oper.wp P o a w K Q else E := by
 have hw : Region.wanted o (yielded ops a.tmps) = true := by simp [Region.wanted, hgd]
 rw [if_pos hw]
 unfold Oper.wp
 rw [hr, Oper.upon_enter]
 refine hc.mono fun e w' hr => ?_
 obtain ⟨v, rfl, hk⟩ := h e w' hr
 exact hk
theorem wl_p {w : World} {Q : Exit → Act → World → Prop} {rest : List Oper} {a' : Act} (v : Value) (k : wpList P ops Q rest a' w) (hw : Region.wanted o (yielded ops a.tmps) = true := by kernel_rfl)
 (h : ∀ w, (execOp a.eval o).run P w = .ok (.value v) w := by intro w; kernel_rfl) (ha : a.put o.dst v = a' := by first | (simp only [Act.put, zD, zE, zF]; done) | (simp only [Act.put, zD, zE, zF]; rfl)) : wpList P ops Q (o :: rest) a w := wl_yf (S := fun _ => True) trivial (yf_run hw fun w _ => h w) (ha ▸ k)
theorem wl_u {w : World} {Q : Exit → Act → World → Prop} {rest : List Oper} {a' : Act} (k : wpList P ops Q rest a' w) (hw : Region.wanted o (yielded ops a.tmps) = false := by kernel_rfl) (ha : a.put o.dst undef = a' := by first | (simp only [Act.put, zD, zE, zF]; done) | (simp only [Act.put, zD, zE, zF]; rfl)) : wpList P ops Q (o :: rest) a w :=
 wl_yf (S := fun _ => True) trivial (.inr ⟨hw, rfl⟩) (ha ▸ k)
theorem wl_ld {w : World} {Q : Exit → Act → World → Prop} {rest : List Oper} {a' : Act} {ty : TypeId} {x : Operand} {p : Addr} {d : TypeDesc} (hc : w.cell? p = some v) (hu : P.underlying ty = some d) (k : wpList P ops Q rest a' w)
 (hw : Region.wanted o (yielded ops a.tmps) = true := by kernel_rfl) (ho : o.op = .load ty x := by rfl) (hx : a.eval x = .pointer (some p) := by kernel_rfl)
 (hd : (match d with | .struct _ | .array _ _ => true | _ => false) = false := by rfl) (ha : a.put o.dst v = a' := by first | (simp only [Act.put, zD, zE, zF]; done) | (simp only [Act.put, zD, zE, zF]; rfl)) : wpList P ops Q (o :: rest) a w := wl_yf (S := fun w' => w' = w) rfl (yf_load hw ty x ho p hx d hu hd fun w' h => by rw [h]; exact hc) (ha ▸ k)
theorem wl_la {w : World} {Q : Exit → Act → World → Prop} {rest : List Oper} {a' : Act} {ty : TypeId} {x : Operand} {b off : Nat} {d : TypeDesc} (cs : Array Value) (hc : ∀ j v, cs[j]? = some v → w.cell? ⟨b, off + j, none⟩ = some v) (hu : P.underlying ty = some d) (k : wpList P ops Q rest a' w)
 (hw : Region.wanted o (yielded ops a.tmps) = true := by kernel_rfl) (ho : o.op = .load ty x := by rfl) (hx : a.eval x = .pointer (some ⟨b, off, none⟩) := by kernel_rfl)
 (hd : (match d with | .struct _ | .array _ _ => true | _ => false) = true := by rfl) (hi : (P.info? ty).map (·.size) = some cs.size := by kernel_rfl) (ha : a.put o.dst (.agg cs) = a' := by first | (simp only [Act.put, zD, zE, zF]; done) | (simp only [Act.put, zD, zE, zF]; rfl)) : wpList P ops Q (o :: rest) a w :=
 wl_yf (S := fun w' => w' = w) rfl (yf_load_agg hw ty x ho b off hx cs d hu hd hi fun w' h => by rw [h]; exact hc) (ha ▸ k)
theorem wl_y {w : World} {Q : Exit → Act → World → Prop} {rest : List Oper} {a' : Act} (S : World → Prop) (v : Value) (hS : S w) (hy : YieldsIf P ops S o v a) (k : wpList P ops Q rest a' w) (ha : a.put o.dst v = a' := by first | (simp only [Act.put, zD, zE, zF]; done) | (simp only [Act.put, zD, zE, zF]; rfl)) : wpList P ops Q (o :: rest) a w := wl_yf hS hy (ha ▸ k)
end
theorem Blk.bel {B b : Nat} {w w' : World} {C : Array Value} {T : TypeId} (h : Blk w b C T) (hb : Below B w w') (hlt : b < B) : Blk w' b C T := (hb.block b hlt).trans h
structure Wl (P : Program) (ops : Array Oper) (Q : Exit → Act → World → Prop) (l : List Oper) (a : Act) (w : World) : Prop where
 out : wpList P ops Q l a w
namespace Wl
section
variable {P : Program} {ops : Array Oper} {S : World → Prop} {o : Oper} {a : Act} {v : Value}
theorem p {w : World} {Q : Exit → Act → World → Prop} {rest : List Oper} {a' : Act} (v : Value) (k : Wl P ops Q rest a' w) (hw : Region.wanted o (yielded ops a.tmps) = true := by kernel_rfl)
 (h : ∀ w, (execOp a.eval o).run P w = .ok (.value v) w := by intro w; kernel_rfl) (ha : a.put o.dst v = a' := by first | (simp only [Act.put, zD, zE, zF]; done) | (simp only [Act.put, zD, zE, zF]; rfl)) : Wl P ops Q (o :: rest) a w := ⟨wl_p v k.out hw h ha⟩
theorem u {w : World} {Q : Exit → Act → World → Prop} {rest : List Oper} {a' : Act} (k : Wl P ops Q rest a' w) (hw : Region.wanted o (yielded ops a.tmps) = false := by kernel_rfl) (ha : a.put o.dst undef = a' := by first | (simp only [Act.put, zD, zE, zF]; done) | (simp only [Act.put, zD, zE, zF]; rfl)) : Wl P ops Q (o :: rest) a w :=
 ⟨wl_u k.out hw ha⟩
theorem ld {w : World} {Q : Exit → Act → World → Prop} {rest : List Oper} {a' : Act} {ty : TypeId} {x : Operand} {p : Addr} {d : TypeDesc} (hc : w.cell? p = some v) (hu : P.underlying ty = some d) (k : Wl P ops Q rest a' w)
 (hw : Region.wanted o (yielded ops a.tmps) = true := by kernel_rfl) (ho : o.op = .load ty x := by rfl) (hx : a.eval x = .pointer (some p) := by kernel_rfl)
 (hd : (match d with | .struct _ | .array _ _ => true | _ => false) = false := by rfl) (ha : a.put o.dst v = a' := by first | (simp only [Act.put, zD, zE, zF]; done) | (simp only [Act.put, zD, zE, zF]; rfl)) : Wl P ops Q (o :: rest) a w := ⟨wl_ld hc hu k.out hw ho hx hd ha⟩
theorem la {w : World} {Q : Exit → Act → World → Prop} {rest : List Oper} {a' : Act} {ty : TypeId} {x : Operand} {b off : Nat} {d : TypeDesc} (cs : Array Value) (hc : ∀ j v, cs[j]? = some v → w.cell? ⟨b, off + j, none⟩ = some v) (hu : P.underlying ty = some d) (k : Wl P ops Q rest a' w)
 (hw : Region.wanted o (yielded ops a.tmps) = true := by kernel_rfl) (ho : o.op = .load ty x := by rfl) (hx : a.eval x = .pointer (some ⟨b, off, none⟩) := by kernel_rfl)
 (hd : (match d with | .struct _ | .array _ _ => true | _ => false) = true := by rfl) (hi : (P.info? ty).map (·.size) = some cs.size := by kernel_rfl) (ha : a.put o.dst (.agg cs) = a' := by first | (simp only [Act.put, zD, zE, zF]; done) | (simp only [Act.put, zD, zE, zF]; rfl)) : Wl P ops Q (o :: rest) a w :=
 ⟨wl_la cs hc hu k.out hw ho hx hd hi ha⟩
theorem y {w : World} {Q : Exit → Act → World → Prop} {rest : List Oper} {a' : Act} (S : World → Prop) (v : Value) (hS : S w) (hy : YieldsIf P ops S o v a) (k : Wl P ops Q rest a' w) (ha : a.put o.dst v = a' := by first | (simp only [Act.put, zD, zE, zF]; done) | (simp only [Act.put, zD, zE, zF]; rfl)) : Wl P ops Q (o :: rest) a w := ⟨wl_y S v hS hy k.out ha⟩
theorem step {w : World} {Q : Exit → Act → World → Prop} {rest : List Oper}
 (h : ∀ K : Act → World → Prop, (∀ a w, Wl P ops Q rest a w → K a w) → if Region.wanted o (yielded ops a.tmps) = true then o.wp P a w K Q else K (a.put o.dst undef) w) : Wl P ops Q (o :: rest) a w := ⟨wl_step fun K hK => h K fun a w hh => hK a w hh.out⟩
theorem nil {w : World} {Q : Exit → Act → World → Prop} (h : Q .normal a w) : Wl P ops Q [] a w := ⟨wpList_nil h⟩
end
end Wl
section
variable {P : Program} {ops : Array Oper} {S : World → Prop} {o : Oper} {a : Act}
theorem yf_cut_h (hw : Region.wanted o (yielded ops a.tmps) = true) (T : TypeId) (hu : P.underlying T = some .string) (x h : Operand) (ho : o.op = .slice T x none (some h) none) (s : ByteArray) (hx : a.eval x = .string s) (n : Nat) (hh : a.eval h = .int .i64 n) (hn : n ≤ s.size) : YieldsIf P ops S o (.string (s.extract 0 n)) a :=
 .inl ⟨hw, fun w _ => by
  unfold execOp
  simp [ho, hx, hh, run_sliceAt_string (h := hu), run_slice_string_h w T s hu .i64 n (by omega) (by omega)]⟩
theorem yf_cut_l (hw : Region.wanted o (yielded ops a.tmps) = true) (T : TypeId) (hu : P.underlying T = some .string) (x h : Operand) (ho : o.op = .slice T x (some h) none none) (s : ByteArray) (hx : a.eval x = .string s) (n : Nat) (hh : a.eval h = .int .i64 n) (hn : n ≤ s.size) : YieldsIf P ops S o (.string (s.extract n s.size)) a :=
 .inl ⟨hw, fun w _ => by
  unfold execOp
  simp [ho, hx, hh, run_sliceAt_string (h := hu), run_slice_string_l w T s hu .i64 n (by omega) (by omega)]⟩
theorem yf_cut_lh (hw : Region.wanted o (yielded ops a.tmps) = true) (T : TypeId) (hu : P.underlying T = some .string) (x l h : Operand) (ho : o.op = .slice T x (some l) (some h) none) (s : ByteArray) (hx : a.eval x = .string s) (m n : Nat) (hl : a.eval l = .int .i64 m) (hh : a.eval h = .int .i64 n) (hm : m ≤ n) (hn : n ≤ s.size) : YieldsIf P ops S o (.string (s.extract m n)) a :=
 .inl ⟨hw, fun w _ => by
  unfold execOp
  simp [ho, hx, hh, hl, run_sliceAt_string (h := hu), run_slice_string w T s .i64 .i64 m n hu (by omega) (by omega) (by omega)]⟩
theorem yf_len (hw : Region.wanted o (yielded ops a.tmps) = true) (T : TypeId) (hu : P.underlying T = some .string) (x : Operand) (ho : o.op = .call { callee := .builtin .len, args := #[x], argTypes := #[T] }) (s : ByteArray) (hx : a.eval x = .string s) : YieldsIf P ops S o (.int .i64 s.size) a :=
 .inl ⟨hw, fun w _ => by
  unfold execOp
  simp [ho, resolve, invoke, builtin, hx, run_len_string (h := hu), goInt]⟩
theorem yf_eql_t (hw : Region.wanted o (yielded ops a.tmps) = true) (T T' : TypeId) (x y : Operand) (ho : o.op = .binOp .eql T x y T') (k : IntKind) (m n : Int) (hx : a.eval x = .int k m) (hy : a.eval y = .int k n) (h : m = n) : YieldsIf P ops S o (.bool true) a :=
 .inl ⟨hw, fun w _ => by
  unfold execOp
  simp only [ho, hx, hy, eqGuard, binOp_eql]
  simp [h]⟩
theorem yf_eql_f (hw : Region.wanted o (yielded ops a.tmps) = true) (T T' : TypeId) (x y : Operand) (ho : o.op = .binOp .eql T x y T') (k : IntKind) (m n : Int) (hx : a.eval x = .int k m) (hy : a.eval y = .int k n) (h : ¬ m = n) : YieldsIf P ops S o (.bool false) a :=
 .inl ⟨hw, fun w _ => by
  unfold execOp
  simp only [ho, hx, hy, eqGuard, binOp_eql]
  simp [h]⟩
theorem yf_neq_t (hw : Region.wanted o (yielded ops a.tmps) = true) (T T' : TypeId) (x y : Operand) (ho : o.op = .binOp .neq T x y T') (k : IntKind) (m n : Int) (hx : a.eval x = .int k m) (hy : a.eval y = .int k n) (h : m ≠ n) : YieldsIf P ops S o (.bool true) a :=
 .inl ⟨hw, fun w _ => by
  unfold execOp
  simp only [ho, hx, hy, eqGuard, binOp_neq]
  simp [h]⟩
theorem yf_neq_f (hw : Region.wanted o (yielded ops a.tmps) = true) (T T' : TypeId) (x y : Operand) (ho : o.op = .binOp .neq T x y T') (k : IntKind) (m n : Int) (hx : a.eval x = .int k m) (hy : a.eval y = .int k n) (h : ¬ m ≠ n) : YieldsIf P ops S o (.bool false) a :=
 .inl ⟨hw, fun w _ => by
  unfold execOp
  simp only [ho, hx, hy, eqGuard, binOp_neq]
  simp; omega⟩
theorem yf_lss_t (hw : Region.wanted o (yielded ops a.tmps) = true) (T T' : TypeId) (x y : Operand) (ho : o.op = .binOp .lss T x y T') (k : IntKind) (m n : Int) (hx : a.eval x = .int k m) (hy : a.eval y = .int k n) (h : m < n) : YieldsIf P ops S o (.bool true) a :=
 .inl ⟨hw, fun w _ => by
  unfold execOp
  simp only [ho, hx, hy, eqGuard, binOp_lss]
  simp [h]⟩
theorem yf_lss_f (hw : Region.wanted o (yielded ops a.tmps) = true) (T T' : TypeId) (x y : Operand) (ho : o.op = .binOp .lss T x y T') (k : IntKind) (m n : Int) (hx : a.eval x = .int k m) (hy : a.eval y = .int k n) (h : ¬ m < n) : YieldsIf P ops S o (.bool false) a :=
 .inl ⟨hw, fun w _ => by
  unfold execOp
  simp only [ho, hx, hy, eqGuard, binOp_lss]
  simp [h]⟩
theorem yf_leq_t (hw : Region.wanted o (yielded ops a.tmps) = true) (T T' : TypeId) (x y : Operand) (ho : o.op = .binOp .leq T x y T') (k : IntKind) (m n : Int) (hx : a.eval x = .int k m) (hy : a.eval y = .int k n) (h : m ≤ n) : YieldsIf P ops S o (.bool true) a :=
 .inl ⟨hw, fun w _ => by
  unfold execOp
  simp only [ho, hx, hy, eqGuard, binOp_leq]
  simp [h]⟩
theorem yf_leq_f (hw : Region.wanted o (yielded ops a.tmps) = true) (T T' : TypeId) (x y : Operand) (ho : o.op = .binOp .leq T x y T') (k : IntKind) (m n : Int) (hx : a.eval x = .int k m) (hy : a.eval y = .int k n) (h : ¬ m ≤ n) : YieldsIf P ops S o (.bool false) a :=
 .inl ⟨hw, fun w _ => by
  unfold execOp
  simp only [ho, hx, hy, eqGuard, binOp_leq]
  simp [h]⟩
theorem yf_gtr_t (hw : Region.wanted o (yielded ops a.tmps) = true) (T T' : TypeId) (x y : Operand) (ho : o.op = .binOp .gtr T x y T') (k : IntKind) (m n : Int) (hx : a.eval x = .int k m) (hy : a.eval y = .int k n) (h : m > n) : YieldsIf P ops S o (.bool true) a :=
 .inl ⟨hw, fun w _ => by
  unfold execOp
  simp only [ho, hx, hy, eqGuard, binOp_gtr]
  simp [h]⟩
theorem yf_gtr_f (hw : Region.wanted o (yielded ops a.tmps) = true) (T T' : TypeId) (x y : Operand) (ho : o.op = .binOp .gtr T x y T') (k : IntKind) (m n : Int) (hx : a.eval x = .int k m) (hy : a.eval y = .int k n) (h : ¬ m > n) : YieldsIf P ops S o (.bool false) a :=
 .inl ⟨hw, fun w _ => by
  unfold execOp
  simp only [ho, hx, hy, eqGuard, binOp_gtr]
  simp [h]⟩
theorem yf_geq_t (hw : Region.wanted o (yielded ops a.tmps) = true) (T T' : TypeId) (x y : Operand) (ho : o.op = .binOp .geq T x y T') (k : IntKind) (m n : Int) (hx : a.eval x = .int k m) (hy : a.eval y = .int k n) (h : m ≥ n) : YieldsIf P ops S o (.bool true) a :=
 .inl ⟨hw, fun w _ => by
  unfold execOp
  simp only [ho, hx, hy, eqGuard, binOp_geq]
  simp [h]⟩
theorem yf_geq_f (hw : Region.wanted o (yielded ops a.tmps) = true) (T T' : TypeId) (x y : Operand) (ho : o.op = .binOp .geq T x y T') (k : IntKind) (m n : Int) (hx : a.eval x = .int k m) (hy : a.eval y = .int k n) (h : ¬ m ≥ n) : YieldsIf P ops S o (.bool false) a :=
 .inl ⟨hw, fun w _ => by
  unfold execOp
  simp only [ho, hx, hy, eqGuard, binOp_geq]
  simp [h]⟩
theorem yf_seql_t (hw : Region.wanted o (yielded ops a.tmps) = true) (T T' : TypeId) (x y : Operand) (ho : o.op = .binOp .eql T x y T') (s c : ByteArray) (hx : a.eval x = .string s) (hy : a.eval y = .string c) (h : s = c) : YieldsIf P ops S o (.bool true) a :=
 .inl ⟨hw, fun w _ => by
  unfold execOp
  subst h
  simp [ho, hx, hy, eqGuard, binOp, Op.stringOp]⟩
theorem yf_seql_f (hw : Region.wanted o (yielded ops a.tmps) = true) (T T' : TypeId) (x y : Operand) (ho : o.op = .binOp .eql T x y T') (s c : ByteArray) (hx : a.eval x = .string s) (hy : a.eval y = .string c) (h : s ≠ c) : YieldsIf P ops S o (.bool false) a :=
 .inl ⟨hw, fun w _ => by
  unfold execOp
  have hl : ¬ s.toList = c.toList := fun e => h (by rw [ByteArray.toList_eq, ByteArray.toList_eq] at e; cases s; cases c; simp at e; simp [e])
  simp [ho, hx, hy, eqGuard, binOp, Op.stringOp, hl]⟩
theorem yf_sneq_t (hw : Region.wanted o (yielded ops a.tmps) = true) (T T' : TypeId) (x y : Operand) (ho : o.op = .binOp .neq T x y T') (s c : ByteArray) (hx : a.eval x = .string s) (hy : a.eval y = .string c) (h : s ≠ c) : YieldsIf P ops S o (.bool true) a :=
 .inl ⟨hw, fun w _ => by
  unfold execOp
  have hl : ¬ s.toList = c.toList := fun e => h (by rw [ByteArray.toList_eq, ByteArray.toList_eq] at e; cases s; cases c; simp at e; simp [e])
  simp [ho, hx, hy, eqGuard, binOp, Op.stringOp, hl]⟩
theorem yf_sneq_f (hw : Region.wanted o (yielded ops a.tmps) = true) (T T' : TypeId) (x y : Operand) (ho : o.op = .binOp .neq T x y T') (s c : ByteArray) (hx : a.eval x = .string s) (hy : a.eval y = .string c) (h : s = c) : YieldsIf P ops S o (.bool false) a :=
 .inl ⟨hw, fun w _ => by
  unfold execOp
  subst h
  simp [ho, hx, hy, eqGuard, binOp, Op.stringOp]⟩
theorem yf_addN (hw : Region.wanted o (yielded ops a.tmps) = true) (T T' : TypeId) (x y : Operand) (ho : o.op = .binOp .add T x y T') (m n : Nat) (hx : a.eval x = .int .i64 m) (hy : a.eval y = .int .i64 n) (h : m + n ≤ 9223372036854775807) : YieldsIf P ops S o (.int .i64 ((m + n : Nat) : Int)) a :=
 .inl ⟨hw, fun w _ => by
  unfold execOp
  have hq : IntKind.i64.wrap ((m : Int) + (n : Int)) = ((m + n : Nat) : Int) := by rw [IntKind.wrap_i64]; omega
  simp only [ho, hx, hy, eqGuard, binOp, Op.intArith, hq]
  rfl⟩
theorem yf_subN (hw : Region.wanted o (yielded ops a.tmps) = true) (T T' : TypeId) (x y : Operand) (ho : o.op = .binOp .sub T x y T') (m n : Nat) (hx : a.eval x = .int .i64 m) (hy : a.eval y = .int .i64 n) (h : n ≤ m) (h2 : m ≤ 9223372036854775807) : YieldsIf P ops S o (.int .i64 ((m - n : Nat) : Int)) a :=
 .inl ⟨hw, fun w _ => by
  unfold execOp
  have hq : IntKind.i64.wrap ((m : Int) - (n : Int)) = ((m - n : Nat) : Int) := by rw [IntKind.wrap_i64]; omega
  simp only [ho, hx, hy, eqGuard, binOp, Op.intArith, hq]
  rfl⟩
end
theorem zD {α : Type} (l : List α) (i : Nat) (a : α) : l.toArray.setIfInBounds i a = (l.set i a).toArray := List.setIfInBounds_toArray ..
theorem zE {α : Type} (x : α) (l : List α) (a : α) : (x :: l).set 0 a = a :: l := rfl
theorem zF {α : Type} (x : α) (l : List α) (n : Nat) (a : α) : (x :: l).set (n + 1) a = x :: l.set n a := rfl
structure Pp (P : Program) (ops : Array Oper) (o : Oper) (a : Act) (v : Value) (a' : Act) : Prop where
 w : Region.wanted o (yielded ops a.tmps) = true
 r : ∀ w, (execOp a.eval o).run P w = .ok (.value v) w
 e : a.put o.dst v = a'
section
variable {P : Program} {ops : Array Oper} {S : World → Prop} {o : Oper} {a a' : Act} {v : Value} {w : World} {Q : Exit → Act → World → Prop} {rest : List Oper} {id : Nat}
def mvOf : Op → Option Operand
 | .move x => some x
 | .assign x => some x
 | _ => none
theorem run_mv {x : Operand} (ho : mvOf o.op = some x) (h : a.eval x = v) (w : World) : (execOp a.eval o).run P w = .ok (.value v) w := by
 subst h; obtain ⟨d, op, _, _, _, _⟩ := o; cases op <;> simp only [mvOf, Option.some.injEq, reduceCtorEq] at ho <;> subst ho <;> rfl
theorem mT {i : Nat} {l : List Value} (ho : mvOf o.op = some (.tmp i)) (hx : a.tmps.toList.drop i = v :: l) (hw : Region.wanted o (yielded ops a.tmps) = true) (e : a.put o.dst v = a') : Pp P ops o a v a' :=
 ⟨hw, run_mv ho (by
  have h1 : a.tmps.toList[i]? = some v := by have := List.getElem?_drop (xs := a.tmps.toList) (i := i) (j := 0); rw [hx] at this; simpa using this.symm
  show a.tmps.getD i undef = v
  rw [Array.getElem?_toList] at h1
  simp [Array.getD_eq_getD_getElem?, h1]), e⟩
theorem mC (ho : mvOf o.op = some (.const v)) (hw : Region.wanted o (yielded ops a.tmps) = true) (e : a.put o.dst v = a') : Pp P ops o a v a' := ⟨hw, run_mv ho rfl, e⟩
theorem mG {g : Nat} (ho : mvOf o.op = some (.global g)) (hw : Region.wanted o (yielded ops a.tmps) = true) (e : a.put o.dst (.pointer (some ⟨g, 0, none⟩)) = a') : Pp P ops o a (.pointer (some ⟨g, 0, none⟩)) a' := ⟨hw, run_mv ho rfl, e⟩
theorem wR {l : List Oper} (h : Wl P l.toArray Q l a w) : (Code.region id l.toArray false).wp P Q a w := wp_region_lit h.out
theorem wN (h : Q .normal a w) : Wl P ops Q [] a w := ⟨wpList_nil h⟩
theorem wP (h : Wl P ops Q rest a' w) (e : a = a' := by simp only [Act.put, zD, zE, zF] <;> rfl) : Wl P ops Q rest a w := e ▸ h
theorem Pp.wl (h : Pp P ops o a v a') (k : Wl P ops Q rest a' w) : Wl P ops Q (o :: rest) a w := Wl.p v k h.w h.r h.e
inductive Pc (P : Program) (ops : Array Oper) : List Value → List Oper → Act → List Oper → Act → Prop
 | nil {l : List Oper} {a : Act} : Pc P ops [] l a l a
 | cons {v : Value} {vs : List Value} {o : Oper} {l r : List Oper} {a a1 a2 : Act} (h : Pp P ops o a v a1) (k : Pc P ops vs l a1 r a2) : Pc P ops (v :: vs) (o :: l) a r a2
theorem Pc.wl {vs : List Value} {l : List Oper} (h : Pc P ops vs l a rest a') (k : Wl P ops Q rest a' w) : Wl P ops Q l a w := by
 induction h with
 | nil => exact k
 | cons h _ ih => exact h.wl (ih k)
theorem pP {l : List Oper} (vs : List Value) (k : Wl P ops Q rest a' w) (c : Pc P ops vs l a rest a' := by repeat' first | exact Pc.nil | apply Pc.cons | exact mT rfl rfl (by kernel_rfl) (by simp only [Act.put, zD, zE, zF] <;> rfl) | exact mC rfl (by kernel_rfl) (by simp only [Act.put, zD, zE, zF] <;> rfl) | exact mG rfl (by kernel_rfl) (by simp only [Act.put, zD, zE, zF] <;> rfl) | exact ⟨by kernel_rfl, by intro w; kernel_rfl, by simp only [Act.put, zD, zE, zF] <;> rfl⟩) : Wl P ops Q l a w := c.wl k
theorem pQ {l : List Oper} (vs : List Value) (k : Q .normal a' w) (c : Pc P ops vs l a [] a' := by repeat' first | exact Pc.nil | apply Pc.cons | exact mT rfl rfl (by kernel_rfl) (by simp only [Act.put, zD, zE, zF] <;> rfl) | exact mC rfl (by kernel_rfl) (by simp only [Act.put, zD, zE, zF] <;> rfl) | exact mG rfl (by kernel_rfl) (by simp only [Act.put, zD, zE, zF] <;> rfl) | exact ⟨by kernel_rfl, by intro w; kernel_rfl, by simp only [Act.put, zD, zE, zF] <;> rfl⟩) : Wl P ops Q l a w := c.wl (wN k)
theorem pR {l : List Oper} (vs : List Value) (k : Wl P l.toArray Q rest a' w) (c : Pc P l.toArray vs l a rest a' := by repeat' first | exact Pc.nil | apply Pc.cons | exact mT rfl rfl (by kernel_rfl) (by simp only [Act.put, zD, zE, zF] <;> rfl) | exact mC rfl (by kernel_rfl) (by simp only [Act.put, zD, zE, zF] <;> rfl) | exact mG rfl (by kernel_rfl) (by simp only [Act.put, zD, zE, zF] <;> rfl) | exact ⟨by kernel_rfl, by intro w; kernel_rfl, by simp only [Act.put, zD, zE, zF] <;> rfl⟩) : (Code.region id l.toArray false).wp P Q a w := wR (c.wl k)
theorem pS {l : List Oper} (vs : List Value) (k : Q .normal a' w) (c : Pc P l.toArray vs l a [] a' := by repeat' first | exact Pc.nil | apply Pc.cons | exact mT rfl rfl (by kernel_rfl) (by simp only [Act.put, zD, zE, zF] <;> rfl) | exact mC rfl (by kernel_rfl) (by simp only [Act.put, zD, zE, zF] <;> rfl) | exact mG rfl (by kernel_rfl) (by simp only [Act.put, zD, zE, zF] <;> rfl) | exact ⟨by kernel_rfl, by intro w; kernel_rfl, by simp only [Act.put, zD, zE, zF] <;> rfl⟩) : (Code.region id l.toArray false).wp P Q a w := wR (c.wl (wN k))
theorem yb {B : Nat} {w0 : World} (v : Value) (hs : Below B w0 w) (hy : YieldsIf P ops (fun w => Below B w0 w) o v a) (k : Wl P ops Q rest a' w) (e : a.put o.dst v = a' := by simp only [Act.put, zD, zE, zF] <;> rfl) : Wl P ops Q (o :: rest) a w := Wl.y (fun w => Below B w0 w) v hs hy k e
theorem ieT (k : IntKind) (m n : Int) (K : Wl P ops Q rest a' w) (h : m = n := by omega) (hw : Region.wanted o (yielded ops a.tmps) = true := by kernel_rfl) {T T' : TypeId} {x y : Operand} (ho : o.op = .binOp .eql T x y T' := by rfl) (hx : a.eval x = .int k m := by kernel_rfl) (hy : a.eval y = .int k n := by kernel_rfl) (e : a.put o.dst (.bool true) = a' := by simp only [Act.put, zD, zE, zF] <;> rfl) : Wl P ops Q (o :: rest) a w := Wl.y (fun _ => True) _ trivial (yf_eql_t hw T T' x y ho k m n hx hy h) K e
theorem ieF (k : IntKind) (m n : Int) (K : Wl P ops Q rest a' w) (h : ¬ m = n := by omega) (hw : Region.wanted o (yielded ops a.tmps) = true := by kernel_rfl) {T T' : TypeId} {x y : Operand} (ho : o.op = .binOp .eql T x y T' := by rfl) (hx : a.eval x = .int k m := by kernel_rfl) (hy : a.eval y = .int k n := by kernel_rfl) (e : a.put o.dst (.bool false) = a' := by simp only [Act.put, zD, zE, zF] <;> rfl) : Wl P ops Q (o :: rest) a w := Wl.y (fun _ => True) _ trivial (yf_eql_f hw T T' x y ho k m n hx hy h) K e
theorem inT (k : IntKind) (m n : Int) (K : Wl P ops Q rest a' w) (h : m ≠ n := by omega) (hw : Region.wanted o (yielded ops a.tmps) = true := by kernel_rfl) {T T' : TypeId} {x y : Operand} (ho : o.op = .binOp .neq T x y T' := by rfl) (hx : a.eval x = .int k m := by kernel_rfl) (hy : a.eval y = .int k n := by kernel_rfl) (e : a.put o.dst (.bool true) = a' := by simp only [Act.put, zD, zE, zF] <;> rfl) : Wl P ops Q (o :: rest) a w := Wl.y (fun _ => True) _ trivial (yf_neq_t hw T T' x y ho k m n hx hy h) K e
theorem inF (k : IntKind) (m n : Int) (K : Wl P ops Q rest a' w) (h : ¬ m ≠ n := by omega) (hw : Region.wanted o (yielded ops a.tmps) = true := by kernel_rfl) {T T' : TypeId} {x y : Operand} (ho : o.op = .binOp .neq T x y T' := by rfl) (hx : a.eval x = .int k m := by kernel_rfl) (hy : a.eval y = .int k n := by kernel_rfl) (e : a.put o.dst (.bool false) = a' := by simp only [Act.put, zD, zE, zF] <;> rfl) : Wl P ops Q (o :: rest) a w := Wl.y (fun _ => True) _ trivial (yf_neq_f hw T T' x y ho k m n hx hy h) K e
theorem ilT (k : IntKind) (m n : Int) (K : Wl P ops Q rest a' w) (h : m < n := by omega) (hw : Region.wanted o (yielded ops a.tmps) = true := by kernel_rfl) {T T' : TypeId} {x y : Operand} (ho : o.op = .binOp .lss T x y T' := by rfl) (hx : a.eval x = .int k m := by kernel_rfl) (hy : a.eval y = .int k n := by kernel_rfl) (e : a.put o.dst (.bool true) = a' := by simp only [Act.put, zD, zE, zF] <;> rfl) : Wl P ops Q (o :: rest) a w := Wl.y (fun _ => True) _ trivial (yf_lss_t hw T T' x y ho k m n hx hy h) K e
theorem ilF (k : IntKind) (m n : Int) (K : Wl P ops Q rest a' w) (h : ¬ m < n := by omega) (hw : Region.wanted o (yielded ops a.tmps) = true := by kernel_rfl) {T T' : TypeId} {x y : Operand} (ho : o.op = .binOp .lss T x y T' := by rfl) (hx : a.eval x = .int k m := by kernel_rfl) (hy : a.eval y = .int k n := by kernel_rfl) (e : a.put o.dst (.bool false) = a' := by simp only [Act.put, zD, zE, zF] <;> rfl) : Wl P ops Q (o :: rest) a w := Wl.y (fun _ => True) _ trivial (yf_lss_f hw T T' x y ho k m n hx hy h) K e
theorem imT (k : IntKind) (m n : Int) (K : Wl P ops Q rest a' w) (h : m ≤ n := by omega) (hw : Region.wanted o (yielded ops a.tmps) = true := by kernel_rfl) {T T' : TypeId} {x y : Operand} (ho : o.op = .binOp .leq T x y T' := by rfl) (hx : a.eval x = .int k m := by kernel_rfl) (hy : a.eval y = .int k n := by kernel_rfl) (e : a.put o.dst (.bool true) = a' := by simp only [Act.put, zD, zE, zF] <;> rfl) : Wl P ops Q (o :: rest) a w := Wl.y (fun _ => True) _ trivial (yf_leq_t hw T T' x y ho k m n hx hy h) K e
theorem imF (k : IntKind) (m n : Int) (K : Wl P ops Q rest a' w) (h : ¬ m ≤ n := by omega) (hw : Region.wanted o (yielded ops a.tmps) = true := by kernel_rfl) {T T' : TypeId} {x y : Operand} (ho : o.op = .binOp .leq T x y T' := by rfl) (hx : a.eval x = .int k m := by kernel_rfl) (hy : a.eval y = .int k n := by kernel_rfl) (e : a.put o.dst (.bool false) = a' := by simp only [Act.put, zD, zE, zF] <;> rfl) : Wl P ops Q (o :: rest) a w := Wl.y (fun _ => True) _ trivial (yf_leq_f hw T T' x y ho k m n hx hy h) K e
theorem igT (k : IntKind) (m n : Int) (K : Wl P ops Q rest a' w) (h : m > n := by omega) (hw : Region.wanted o (yielded ops a.tmps) = true := by kernel_rfl) {T T' : TypeId} {x y : Operand} (ho : o.op = .binOp .gtr T x y T' := by rfl) (hx : a.eval x = .int k m := by kernel_rfl) (hy : a.eval y = .int k n := by kernel_rfl) (e : a.put o.dst (.bool true) = a' := by simp only [Act.put, zD, zE, zF] <;> rfl) : Wl P ops Q (o :: rest) a w := Wl.y (fun _ => True) _ trivial (yf_gtr_t hw T T' x y ho k m n hx hy h) K e
theorem igF (k : IntKind) (m n : Int) (K : Wl P ops Q rest a' w) (h : ¬ m > n := by omega) (hw : Region.wanted o (yielded ops a.tmps) = true := by kernel_rfl) {T T' : TypeId} {x y : Operand} (ho : o.op = .binOp .gtr T x y T' := by rfl) (hx : a.eval x = .int k m := by kernel_rfl) (hy : a.eval y = .int k n := by kernel_rfl) (e : a.put o.dst (.bool false) = a' := by simp only [Act.put, zD, zE, zF] <;> rfl) : Wl P ops Q (o :: rest) a w := Wl.y (fun _ => True) _ trivial (yf_gtr_f hw T T' x y ho k m n hx hy h) K e
theorem ihT (k : IntKind) (m n : Int) (K : Wl P ops Q rest a' w) (h : m ≥ n := by omega) (hw : Region.wanted o (yielded ops a.tmps) = true := by kernel_rfl) {T T' : TypeId} {x y : Operand} (ho : o.op = .binOp .geq T x y T' := by rfl) (hx : a.eval x = .int k m := by kernel_rfl) (hy : a.eval y = .int k n := by kernel_rfl) (e : a.put o.dst (.bool true) = a' := by simp only [Act.put, zD, zE, zF] <;> rfl) : Wl P ops Q (o :: rest) a w := Wl.y (fun _ => True) _ trivial (yf_geq_t hw T T' x y ho k m n hx hy h) K e
theorem ihF (k : IntKind) (m n : Int) (K : Wl P ops Q rest a' w) (h : ¬ m ≥ n := by omega) (hw : Region.wanted o (yielded ops a.tmps) = true := by kernel_rfl) {T T' : TypeId} {x y : Operand} (ho : o.op = .binOp .geq T x y T' := by rfl) (hx : a.eval x = .int k m := by kernel_rfl) (hy : a.eval y = .int k n := by kernel_rfl) (e : a.put o.dst (.bool false) = a' := by simp only [Act.put, zD, zE, zF] <;> rfl) : Wl P ops Q (o :: rest) a w := Wl.y (fun _ => True) _ trivial (yf_geq_f hw T T' x y ho k m n hx hy h) K e
theorem isT (s c : ByteArray) (h : s = c) (K : Wl P ops Q rest a' w) (hw : Region.wanted o (yielded ops a.tmps) = true := by kernel_rfl) {T T' : TypeId} {x y : Operand} (ho : o.op = .binOp .eql T x y T' := by rfl) (hx : a.eval x = .string s := by kernel_rfl) (hy : a.eval y = .string c := by kernel_rfl) (e : a.put o.dst (.bool true) = a' := by simp only [Act.put, zD, zE, zF] <;> rfl) : Wl P ops Q (o :: rest) a w := Wl.y (fun _ => True) _ trivial (yf_seql_t hw T T' x y ho s c hx hy h) K e
theorem isF (s c : ByteArray) (h : s ≠ c) (K : Wl P ops Q rest a' w) (hw : Region.wanted o (yielded ops a.tmps) = true := by kernel_rfl) {T T' : TypeId} {x y : Operand} (ho : o.op = .binOp .eql T x y T' := by rfl) (hx : a.eval x = .string s := by kernel_rfl) (hy : a.eval y = .string c := by kernel_rfl) (e : a.put o.dst (.bool false) = a' := by simp only [Act.put, zD, zE, zF] <;> rfl) : Wl P ops Q (o :: rest) a w := Wl.y (fun _ => True) _ trivial (yf_seql_f hw T T' x y ho s c hx hy h) K e
theorem itT (s c : ByteArray) (h : s ≠ c) (K : Wl P ops Q rest a' w) (hw : Region.wanted o (yielded ops a.tmps) = true := by kernel_rfl) {T T' : TypeId} {x y : Operand} (ho : o.op = .binOp .neq T x y T' := by rfl) (hx : a.eval x = .string s := by kernel_rfl) (hy : a.eval y = .string c := by kernel_rfl) (e : a.put o.dst (.bool true) = a' := by simp only [Act.put, zD, zE, zF] <;> rfl) : Wl P ops Q (o :: rest) a w := Wl.y (fun _ => True) _ trivial (yf_sneq_t hw T T' x y ho s c hx hy h) K e
theorem itF (s c : ByteArray) (h : s = c) (K : Wl P ops Q rest a' w) (hw : Region.wanted o (yielded ops a.tmps) = true := by kernel_rfl) {T T' : TypeId} {x y : Operand} (ho : o.op = .binOp .neq T x y T' := by rfl) (hx : a.eval x = .string s := by kernel_rfl) (hy : a.eval y = .string c := by kernel_rfl) (e : a.put o.dst (.bool false) = a' := by simp only [Act.put, zD, zE, zF] <;> rfl) : Wl P ops Q (o :: rest) a w := Wl.y (fun _ => True) _ trivial (yf_sneq_f hw T T' x y ho s c hx hy h) K e
theorem iA (m n : Nat) (K : Wl P ops Q rest a' w) (h : m + n ≤ 9223372036854775807 := by omega) (hw : Region.wanted o (yielded ops a.tmps) = true := by kernel_rfl) {T T' : TypeId} {x y : Operand} (ho : o.op = .binOp .add T x y T' := by rfl) (hx : a.eval x = .int .i64 m := by kernel_rfl) (hy : a.eval y = .int .i64 n := by kernel_rfl) (e : a.put o.dst (.int .i64 ((m + n : Nat) : Int)) = a' := by simp only [Act.put, zD, zE, zF] <;> rfl) : Wl P ops Q (o :: rest) a w := Wl.y (fun _ => True) _ trivial (yf_addN hw T T' x y ho m n hx hy h) K e
theorem iL (s : ByteArray) {T : TypeId} (hu : P.underlying T = some .string) (K : Wl P ops Q rest a' w) (hw : Region.wanted o (yielded ops a.tmps) = true := by kernel_rfl) {x : Operand} (ho : o.op = .call { callee := .builtin .len, args := #[x], argTypes := #[T] } := by rfl) (hx : a.eval x = .string s := by kernel_rfl) (e : a.put o.dst (.int .i64 ((s.size : Nat) : Int)) = a' := by simp only [Act.put, zD, zE, zF] <;> rfl) : Wl P ops Q (o :: rest) a w := Wl.y (fun _ => True) _ trivial (yf_len hw T hu x ho s hx) K e
theorem cuH (s : ByteArray) (n : Nat) {T : TypeId} (hu : P.underlying T = some .string) (K : Wl P ops Q rest a' w) (hn : n ≤ s.size := by omega) (hw : Region.wanted o (yielded ops a.tmps) = true := by kernel_rfl) {x h : Operand} (ho : o.op = .slice T x none (some h) none := by rfl) (hx : a.eval x = .string s := by kernel_rfl) (hh : a.eval h = .int .i64 n := by kernel_rfl) (e : a.put o.dst (.string (s.extract 0 n)) = a' := by simp only [Act.put, zD, zE, zF] <;> rfl) : Wl P ops Q (o :: rest) a w := Wl.y (fun _ => True) _ trivial (yf_cut_h hw T hu x h ho s hx n hh hn) K e
theorem cuL (s : ByteArray) (n : Nat) {T : TypeId} (hu : P.underlying T = some .string) (K : Wl P ops Q rest a' w) (hn : n ≤ s.size := by omega) (hw : Region.wanted o (yielded ops a.tmps) = true := by kernel_rfl) {x h : Operand} (ho : o.op = .slice T x (some h) none none := by rfl) (hx : a.eval x = .string s := by kernel_rfl) (hh : a.eval h = .int .i64 n := by kernel_rfl) (e : a.put o.dst (.string (s.extract n s.size)) = a' := by simp only [Act.put, zD, zE, zF] <;> rfl) : Wl P ops Q (o :: rest) a w := Wl.y (fun _ => True) _ trivial (yf_cut_l hw T hu x h ho s hx n hh hn) K e
theorem kE (src dst : TypeId) (u v : Value) (h : (convert src dst u).run P w = .ok v w) (K : Wl P ops Q rest a' w) (hw : Region.wanted o (yielded ops a.tmps) = true := by kernel_rfl) {x : Operand} (ho : o.op = .convert src dst x := by rfl) (hx : a.eval x = u := by kernel_rfl) (e : a.put o.dst v = a' := by simp only [Act.put, zD, zE, zF] <;> rfl) : Wl P ops Q (o :: rest) a w := Wl.y (fun w' => w' = w) v rfl (yf_conv hw src dst x ho u hx (fun _ e => e ▸ h)) K e
theorem yR (hw : Region.wanted o (yielded ops a.tmps) = true := by kernel_rfl) (h : ∀ w, S w → (execOp a.eval o).run P w = .ok (.value v) w := by intro w _; kernel_rfl) : YieldsIf P ops S o v a := yf_run hw h
theorem yL {ty : TypeId} {p : Addr} {x : Operand} {d : TypeDesc} (hu : P.underlying ty = some d) (hc : ∀ w, S w → w.cell? p = some v) (hw : Region.wanted o (yielded ops a.tmps) = true := by kernel_rfl) (ho : o.op = .load ty x := by rfl) (hx : a.eval x = .pointer (some p) := by kernel_rfl)
 (hd : (match d with | .struct _ | .array _ _ => true | _ => false) = false := by rfl) : YieldsIf P ops S o v a := yf_load hw ty x ho p hx d hu hd hc
theorem yA (ty : TypeId) (b off : Nat) (cs : Array Value) {x : Operand} {d : TypeDesc} (hu : P.underlying ty = some d) (hi : (P.info? ty).map (·.size) = some cs.size) (hc : ∀ w, S w → ∀ j v, cs[j]? = some v → w.cell? ⟨b, off + j, none⟩ = some v)
 (hw : Region.wanted o (yielded ops a.tmps) = true := by kernel_rfl) (ho : o.op = .load ty x := by rfl) (hx : a.eval x = .pointer (some ⟨b, off, none⟩) := by kernel_rfl)
 (hd : (match d with | .struct _ | .array _ _ => true | _ => false) = true := by rfl) : YieldsIf P ops S o (.agg cs) a := yf_load_agg hw ty x ho b off hx cs d hu (by cases d <;> simp_all) hi hc
theorem yE (src dst : TypeId) (u : Value) (h : ∀ w, S w → (convert src dst u).run P w = .ok v w) {x : Operand} (hw : Region.wanted o (yielded ops a.tmps) = true := by kernel_rfl) (ho : o.op = .convert src dst x := by rfl) (hx : a.eval x = u := by kernel_rfl) : YieldsIf P ops S o v a := yf_conv hw src dst x ho u hx h
theorem sC {K : Act → World → Prop} {E : Prop} {f : FuncId} {fn : Func} (hf : P.funcs[f]? = some fn) (vals : Array Value) {R : Ending → World → Prop} (hc : Calls P f vals w R) (h : ∀ e w', R e w' → ∃ v, e = .returned v ∧ K (a.put o.dst v) w')
 (hgd : o.guard = none := by rfl) (hn : (fn.name == "runtime.NumGoroutine") = false := by kernel_rfl) (hb : fn.body.isNone = false := by kernel_rfl) {xs : Array Operand} {ats : Array TypeId} (ho : o.op = .call { callee := .value (.func f), args := xs, argTypes := ats } := by rfl) (hv : xs.map a.eval = vals := by kernel_rfl) :
 if Region.wanted o (yielded ops a.tmps) = true then Oper.wp P o a w K Q else E := step_call hgd f xs ats hf hn hb ho vals hv hc h
theorem cC {f : FuncId} {fn : Func} (hf : P.funcs[f]? = some fn) (vals : Array Value) {R : Ending → World → Prop} (hc : Calls P f vals w R) (h : ∀ e w', R e w' → ∃ v, e = .returned v ∧ Wl P ops Q rest (a.put o.dst v) w')
 (hgd : o.guard = none := by rfl) (hn : (fn.name == "runtime.NumGoroutine") = false := by kernel_rfl) (hb : fn.body.isNone = false := by kernel_rfl) {xs : Array Operand} {ats : Array TypeId} (ho : o.op = .call { callee := .value (.func f), args := xs, argTypes := ats } := by rfl) (hv : xs.map a.eval = vals := by kernel_rfl) :
 Wl P ops Q (o :: rest) a w := Wl.step fun K hK => step_call hgd f xs ats hf hn hb ho vals hv hc fun e w' hr => by obtain ⟨v, e1, e2⟩ := h e w' hr; exact ⟨v, e1, hK _ _ e2⟩
theorem cD {f : FuncId} {fn : Func} (hf : P.funcs[f]? = some fn) {vals : Array Value} {R : Ending → World → Prop} (hc : Calls P f vals w R) (h : ∀ e w', R e w' → ∃ v, e = .returned v ∧ Wl P ops Q rest (a.put o.dst v) w')
 (hgd : o.guard = none := by rfl) (hn : (fn.name == "runtime.NumGoroutine") = false := by kernel_rfl) (hb : fn.body.isNone = false := by kernel_rfl) {xs : Array Operand} {ats : Array TypeId} (ho : o.op = .call { callee := .value (.func f), args := xs, argTypes := ats } := by rfl) (hv : xs.map a.eval = vals := by kernel_rfl) : Wl P ops Q (o :: rest) a w := cC hf vals hc h hgd hn hb ho hv
theorem cR {d : Option Nat} (h : Wl P ops Q rest a' w) (e : a.put d v = a' := by simp only [Act.put, zD, zE, zF] <;> rfl) : ∃ v', Ending.returned v = .returned v' ∧ Wl P ops Q rest (a.put d v') w := ⟨v, rfl, e ▸ h⟩
theorem sA {K : Act → World → Prop} {E : Prop} (ty : TypeId) (g off : Nat) (vs : List Value) (C' : Array Value) (T : TypeId) {C : Array Value} (hb : Blk w g C T) (h : ∀ W, Blk W g C' T → Oth g w W → K (a.put o.dst undef) W)
 (hgd : o.guard = none := by rfl) {x y : Operand} (ho : o.op = .store ty x y := by rfl) (hx : a.eval x = .pointer (some ⟨g, off, none⟩) := by kernel_rfl) (hy : (a.eval y).cells.toList = vs := by kernel_rfl) (hi : (P.info? ty).map (·.size) = some vs.length := by kernel_rfl)
 (h1 : vs.all (·.oneCell') = true := by kernel_rfl) (hle : decide (off + vs.length ≤ C.size) = true := by kernel_rfl) (hC : (C.toList.take off ++ vs ++ C.toList.drop (off + vs.length)).toArray = C' := by kernel_rfl) :
 if Region.wanted o (yielded ops a.tmps) = true then Oper.wp P o a w K Q else E := step_store_at hgd ty x y ho g off vs C C' T hx hy hi h1 hb hle hC h
theorem cA (ty : TypeId) (g off : Nat) (vs : List Value) (C' : Array Value) (T : TypeId) {C : Array Value} (hb : Blk w g C T) (h : ∀ W, Blk W g C' T → Oth g w W → Wl P ops Q rest a W)
 (hgd : o.guard = none := by rfl) (hd : o.dst = none := by rfl) {x y : Operand} (ho : o.op = .store ty x y := by rfl) (hx : a.eval x = .pointer (some ⟨g, off, none⟩) := by kernel_rfl) (hy : (a.eval y).cells.toList = vs := by kernel_rfl) (hi : (P.info? ty).map (·.size) = some vs.length := by kernel_rfl)
 (h1 : vs.all (·.oneCell') = true := by kernel_rfl) (hle : decide (off + vs.length ≤ C.size) = true := by kernel_rfl) (hC : (C.toList.take off ++ vs ++ C.toList.drop (off + vs.length)).toArray = C' := by kernel_rfl) : Wl P ops Q (o :: rest) a w :=
 Wl.step fun K hK => step_store_at hgd ty x y ho g off vs C C' T hx hy hi h1 hb hle hC fun W k1 k2 => by rw [hd]; exact hK _ _ (h W k1 k2)
theorem cB (ty : TypeId) (g off : Nat) (vs : List Value) (T : TypeId) {C C' : Array Value} (hb : Blk w g C T) (h : ∀ W, Blk W g C' T → Oth g w W → Wl P ops Q rest a W)
 (hgd : o.guard = none := by rfl) (hd : o.dst = none := by rfl) {x y : Operand} (ho : o.op = .store ty x y := by rfl) (hx : a.eval x = .pointer (some ⟨g, off, none⟩) := by kernel_rfl) (hy : (a.eval y).cells.toList = vs := by kernel_rfl) (hi : (P.info? ty).map (·.size) = some vs.length := by kernel_rfl)
 (h1 : vs.all (·.oneCell') = true := by kernel_rfl) (hle : decide (off + vs.length ≤ C.size) = true := by kernel_rfl) (hC : (C.toList.take off ++ vs ++ C.toList.drop (off + vs.length)).toArray = C' := by simp only [List.toList_toArray, List.take_succ_cons, List.take_zero, List.drop_succ_cons, List.drop_zero, List.drop_nil, List.cons_append, List.nil_append, List.append_nil, List.length_cons, List.length_nil, Nat.reduceAdd] <;> rfl) : Wl P ops Q (o :: rest) a w :=
 cA ty g off vs C' T hb h hgd hd ho hx hy hi h1 hle hC
theorem sN {K : Act → World → Prop} {E : Prop} (C : Array Value) (T : TypeId) (h : ∀ b W, w.heap.size ≤ b → b < W.heap.size → Blk W b C T → Below w.heap.size w W → K (a.put o.dst (.pointer (some ⟨b, 0, none⟩))) W)
 (hgd : o.guard = none := by rfl) (hr : (execOp a.eval o).run P w = .ok (.value (.pointer (some ⟨w.heap.size, 0, none⟩))) (w.alloc (.cells C T)) := by kernel_rfl) :
 if Region.wanted o (yielded ops a.tmps) = true then Oper.wp P o a w K Q else E := step_new hgd (fun b => .pointer (some ⟨b, 0, none⟩)) C T hr h
theorem cN (C : Array Value) (T : TypeId) (h : ∀ b W, w.heap.size ≤ b → b < W.heap.size → Blk W b C T → Below w.heap.size w W → Wl P ops Q rest (a.put o.dst (.pointer (some ⟨b, 0, none⟩))) W)
 (hgd : o.guard = none := by rfl) (hr : (execOp a.eval o).run P w = .ok (.value (.pointer (some ⟨w.heap.size, 0, none⟩))) (w.alloc (.cells C T)) := by kernel_rfl) : Wl P ops Q (o :: rest) a w :=
 Wl.step fun K hK => step_new hgd (fun b => .pointer (some ⟨b, 0, none⟩)) C T hr fun b W h1 h2 h3 h4 => hK _ _ (h b W h1 h2 h3 h4)
theorem sR {K : Act → World → Prop} {E : Prop} (g : Nat) (cells : Array Value) (t : TypeId) (hg : isRow w g t cells.size) {ty : TypeId} (hi : (P.info? ty).map (·.size) = some cells.size) (h : K (a.put o.dst undef) (w.setRow g cells))
 (hgd : o.guard = none := by rfl) {x y : Operand} (ho : o.op = .store ty x y := by rfl) (hx : a.eval x = .pointer (some ⟨g, 0, none⟩) := by kernel_rfl) (hy : a.eval y = .agg cells := by kernel_rfl) (h1 : cells.all (·.oneCell') = true := by kernel_rfl) :
 if Region.wanted o (yielded ops a.tmps) = true then Oper.wp P o a w K Q else E := step_store_row hgd ty x y ho g cells hx hy t hg hi h1 h
variable {md : Region.Mode}
theorem tk (i : Nat) (v : Value) {oi : Oper} {l : List Oper} (hi : ops.toList.drop i = oi :: l) (hy : YieldsIf P ops S oi v a) (hS : S w) {fuel : Nat} {listed : Array Bool} (h : wpAnyH P md ops Q S fuel (listed.setIfInBounds i true) a' w)
 (hs : Region.noSelect ops = true := by kernel_rfl) (hf : Region.free md ops listed i = true := by kernel_rfl) (hr : (Region.ready md ops listed).contains i = true := by kernel_rfl)
 (hQ : ∀ c a w, Q (.panic c) (a.put oi.dst v) w → Q (.panic c) a w := by intro _ _ _ h; exact h) (e : a.put oi.dst v = a' := by simp only [Act.put, zD, zE, zF] <;> rfl) : wpAnyH P md ops Q S (fuel + 1) listed a w := by
 subst e
 have h1 : ops[i]? = some oi := by have := List.getElem?_drop (xs := ops.toList) (i := i) (j := 0); rw [hi] at this; simpa using this.symm
 exact wpAnyH_take h1 hs hf hr hQ hy hS h
theorem rd (i : Nat) {o : Oper} {l : List Oper} (hi : ops.toList.drop i = o :: l) {fuel : Nat} {listed : Array Bool}
 (h : ∀ K' : Act → World → Prop, Shut (∀ a w, S w → (S w → wpAnyH P md ops Q S fuel (listed.setIfInBounds i true) a w) → K' a w) → if Region.wanted o (yielded ops a.tmps) = true then Oper.wp P o a w K' Q else K' (a.put o.dst undef) w)
 (hr : Region.ready md ops listed = [i] := by kernel_rfl) : wpAnyH P md ops Q S (fuel + 1) listed a w := by
 have h1 : ops[i]? = some o := by have := List.getElem?_drop (xs := ops.toList) (i := i) (j := 0); rw [hi] at this; simpa using this.symm
 exact wpAnyH_ready hr (by simp) (AllReadyH.cons h1 h AllReadyH.nil)
theorem sh {X : Act → World → Prop} {K' : Act → World → Prop} (hK : Shut (∀ a w, S w → (S w → X a w) → K' a w)) (hS : S w) (h : X a' w) (e : a = a' := by simp only [Act.put, zD, zE, zF] <;> rfl) : K' a w := by subst e; exact hK.out _ _ hS fun _ => h
end
theorem zA {B C : Nat} {w w1 w2 : World} (h : Below B w w1) (k : Below C w1 w2) (hB : B ≤ C ∨ B ≤ w.heap.size ∧ w1.heap.size ≤ C := by omega) : Below B w w2 := h.trans (k.mono (by have := h.size; omega))
theorem zB {B C : Nat} {w w1 w2 : World} (h : Below B w w1) (k : Below C w1 w2) (hB : B ≤ C ∨ B ≤ w.heap.size ∧ w1.heap.size ≤ C := by omega) : Below B w w2 ∧ w.heap.size ≤ w2.heap.size := ⟨zA h k hB, (zA h k hB).size⟩
theorem zC {B C : Nat} {w w1 w2 : World} (h : Below B w w1) (k : Below C w1 w2) (hB : B ≤ C ∨ B ≤ w.heap.size ∧ w1.heap.size ≤ C := by omega) : Below B w w2 ∧ w.heap.size ≤ w2.heap.size ∧ w1.heap.size ≤ w2.heap.size := ⟨zA h k hB, (zA h k hB).size, k.size⟩
end Go.Proofs.YtfcllhdhfenmcaaGreatDoor
