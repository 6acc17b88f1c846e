/- Part 14 of the proof: laws and walks (merged by a program). -/
import Derived.Test.YtfcllhdhfenmcaaGreatDoorK01
import Derived.Test.YtfcllhdhfenmcaaGreatDoorK03
import Derived.Test.YtfcllhdhfenmcaaGreatDoorRows
import Derived.Deep.Slices
import Derived.ChangeSame
import Derived.Carry
import Derived.ProofKit
import Derived.OpenShut
set_option linter.all false
set_option maxHeartbeats 8000000
set_option maxRecDepth 100000
namespace Go.Proofs.YtfcllhdhfenmcaaGreatDoor
open Go.ChangeShapes Go.WideShapes Go.ChangeAt Go.RowKit Go.Deep
section
variable {H : Type} {enc : TypeId × Value → H} {w : World} {sp : Nat → Bool} {held : Bool}
theorem bulk_part {d : DataW H} {l : List (DataW H)} (h : d ∈ l) : Rows.uptoBulk d ≤ Rows.uptoBulkAll l := by
 induction l with
 | nil => cases h
 | cons x r ih =>
   simp only [Rows.uptoBulkAll]
   cases List.mem_cons.1 h with
   | inl e => subst e; omega
   | inr e => have := ih e; omega
theorem bulk_one (d : DataW H) : 1 ≤ Rows.uptoBulk d := by
 cases d with
 | lit l => cases l <;> simp [Rows.uptoBulk]
 | nil => simp [Rows.uptoBulk]
 | ptr d => simp [Rows.uptoBulk]
 | slice elems spare => simp [Rows.uptoBulk]
 | agg parts => simp [Rows.uptoBulk]
 | iface t d => simp [Rows.uptoBulk]
 | map entries => simp [Rows.uptoBulk]
 | held h => simp [Rows.uptoBulk]
theorem bulk_len (l : List (DataW H)) : l.length ≤ Rows.uptoBulkAll l := by
 induction l with
 | nil => simp [Rows.uptoBulkAll]
 | cons x r ih => have := bulk_one x; simp only [Rows.uptoBulkAll, List.length_cons]; omega
theorem bulk_slice (elems spare : List (DataW H)) : Rows.uptoBulkAll elems + 1 ≤ Rows.uptoBulk (.slice elems spare) := by
 simp only [Rows.uptoBulk]
 omega
theorem bulk_agg (l : List (DataW H)) : Rows.uptoBulk (.agg l) = Rows.uptoBulkAll l + 1 := by simp only [Rows.uptoBulk]
theorem spot_none {w : World} {b o : Nat} {s : Option Nat} {v : Value} (h : w.cell? ⟨b, o, s⟩ = some v) : s = none := by
 cases s with
 | none => rfl
 | some x =>
   unfold World.cell? at h
   split at h <;> simp at h
theorem cell_lt {w : World} {b o : Nat} {v : Value} (h : w.cell? ⟨b, o, none⟩ = some v) : b < w.heap.size := by
 rcases Nat.lt_or_ge b w.heap.size with q | q
 ·exact q
 ·unfold World.cell? at h
  rw [Array.getElem?_eq_none (by exact q)] at h
  cases h
theorem add_none' (b o i : Nat) : (⟨b, o, none⟩ : Addr).add i = ⟨b, o + i, none⟩ := by
 unfold Addr.add
 split
 ·rename_i h
  subst h
  rfl
 ·rfl
theorem read_by {fuel : Nat} {cs : List Value} {x : DataW H × List MemPlace} (h : DataW.trod enc Tryz.prog w 0 sp held fuel 22 cs = some x) :
 ∃ v l, cs = [v] ∧ Bs w v l ∧ l.length ≤ Rows.uptoBulk x.1 := by
 rcases open_slice1 Tryz.underlying22 (by kernel_rfl) h with ⟨rfl, rfl⟩ | ⟨a, len, cap, m, n, V, D, Pl, rfl, _, hl, hm, hmm, rfl, hx⟩
 ·exact ⟨_, [], rfl, ⟨none, 0, rfl, Nat.le_refl _, by omega, fun h => absurd h (by simp)⟩, by simp⟩
 ·have hlm : len ≤ m := by rw [hmm]; split <;> omega
  have hz : ∀ i, i < len → ∃ z : UInt8, V i = .int .u8 z.toNat := fun i hi => by
   obtain ⟨_, h2⟩ := hx i (by omega)
   obtain ⟨z, e1, _, e3⟩ := DataW.trod_int Tryz.underlying5 h2
   have hb := bounds_u8 e3
   have e1 : V i = .int .u8 z := by simpa using e1
   refine ⟨UInt8.ofNat z.toNat, ?_⟩
   rw [e1]
   congr 1
   simp
   omega
  obtain ⟨f, hf⟩ := choose_lt hz
  have hll : ((List.range len).map f).length = len := by simp
  have hml : maxLen ≤ 9223372036854775807 := by decide
  have hcap : cap ≤ 9223372036854775807 := by omega
  refine ⟨_, (List.range len).map f, rfl, ⟨some a, cap, by rw [hll], by rw [hll]; exact hl, hcap, fun h0 => ?_⟩, ?_⟩
  ·rw [hll] at h0
   obtain ⟨b, o, s⟩ := a
   have h1 := (hx 0 (by omega)).1
   have hs : s = none := by
    unfold Addr.add at h1
    split at h1
    ·exact spot_none h1
    ·rename_i q; exact absurd rfl q
   subst hs
   refine ⟨b, o, rfl, ?_, fun i hi => ?_⟩
   ·rw [add_none'] at h1
    exact cell_lt h1
   ·have hi : i < len := by simpa using hi
    have h2 := (hx i (by omega)).1
    rw [add_none'] at h2
    rw [h2, hf i hi]
    congr 2
    rw [ga_get _ _ (by simpa using hi)]
    simp
  ·have h1 := bulk_slice ((List.range len).map D) ((List.range (m - len)).map fun j => D (len + j))
   have h2 := bulk_len ((List.range len).map D)
   simp at h2 ⊢
   omega
theorem fields_of {t : TypeId} {fs : Array Field} {fuel : Nat} {cs : List Value} {x : DataW H × List MemPlace} (ht : Tryz.prog.underlying t = some (.struct fs)) (h : DataW.trod enc Tryz.prog w 0 sp held fuel t cs = some x) :
 cs.length = Tryz.prog.cellsOf t ∧ ∃ (Y : Nat → DataW H × List MemPlace) (n : Nat), ∀ (i : Nat) (f : Field), fs[i]? = some f → DataW.trod enc Tryz.prog w 0 sp held n f.type ((cs.drop f.offset).take (Tryz.prog.cellsOf f.type)) = some (Y i) ∧ Rows.uptoBulk (Y i).1 + 1 ≤ Rows.uptoBulk x.1 := by
 obtain ⟨xs, n, _, rfl, hl, hlen, hf⟩ := DataW.trod_struct ht h
 refine ⟨hl, fun i => xs.getD i (.nil, []), n, fun i f hi => ?_⟩
 have hif : i < fs.size := (Array.getElem?_eq_some_iff.1 hi).1
 have hix : i < xs.length := by omega
 have h1 := hf i f hi
 have e : xs[i]? = some (xs.getD i (.nil, [])) := by simp [List.getD, List.getElem?_eq_getElem hix]
 refine ⟨by rw [h1, e], ?_⟩
 rw [bulk_agg]
 have hm : (xs.getD i (.nil, [])).1 ∈ xs.map (·.1) := List.mem_map_of_mem (List.mem_of_getElem? e)
 exact Nat.add_le_add_right (bulk_part hm) 1
theorem one_at {cs : List Value} {o : Nat} {v : Value} (h : (cs.drop o).take 1 = [v]) : cs[o]? = some v := by
 have := congrArg (·[0]?) h
 simpa [List.getElem?_take, List.getElem?_drop] using this
theorem fld_by {n : Nat} {cs : List Value} {o : Nat} {y : DataW H × List MemPlace} (h : DataW.trod enc Tryz.prog w 0 sp held n 22 ((cs.drop o).take (Tryz.prog.cellsOf 22)) = some y) :
 ∃ v l, cs[o]? = some v ∧ Bs w v l ∧ l.length ≤ Rows.uptoBulk y.1 := by
 rw [show Tryz.prog.cellsOf 22 = 1 by kernel_rfl] at h
 obtain ⟨v, l, e, h1, h2⟩ := read_by h
 exact ⟨v, l, one_at e, h1, h2⟩
theorem fld_int {n : Nat} {cs : List Value} {o : Nat} {y : DataW H × List MemPlace} (h : DataW.trod enc Tryz.prog w 0 sp held n 3 ((cs.drop o).take (Tryz.prog.cellsOf 3)) = some y) :
 ∃ z : Int, cs[o]? = some (.int .i64 z) ∧ -9223372036854775808 ≤ z ∧ z ≤ 9223372036854775807 := by
 rw [show Tryz.prog.cellsOf 3 = 1 by kernel_rfl] at h
 obtain ⟨z, e, _, h2⟩ := DataW.trod_int Tryz.underlying3 h
 exact ⟨z, one_at e, bounds_i64 h2⟩
theorem fld_u32 {n : Nat} {cs : List Value} {o : Nat} {y : DataW H × List MemPlace} (h : DataW.trod enc Tryz.prog w 0 sp held n 32 ((cs.drop o).take (Tryz.prog.cellsOf 32)) = some y) :
 ∃ z : Int, cs[o]? = some (.int .u32 z) ∧ 0 ≤ z ∧ z ≤ 4294967295 := by
 rw [show Tryz.prog.cellsOf 32 = 1 by kernel_rfl] at h
 obtain ⟨z, e, _, h2⟩ := DataW.trod_int Tryz.underlying32 h
 exact ⟨z, one_at e, bounds_u32 h2⟩
theorem fld_bool {n : Nat} {cs : List Value} {o : Nat} {y : DataW H × List MemPlace} (h : DataW.trod enc Tryz.prog w 0 sp held n 4 ((cs.drop o).take (Tryz.prog.cellsOf 4)) = some y) :
 ∃ b, cs[o]? = some (.bool b) := by
 rw [show Tryz.prog.cellsOf 4 = 1 by kernel_rfl] at h
 obtain ⟨b, e, _⟩ := DataW.trod_bool Tryz.underlying4 h
 exact ⟨b, one_at e⟩
theorem read_kv {fuel : Nat} {cs : List Value} {x : DataW H × List MemPlace} (h : DataW.trod enc Tryz.prog w 0 sp held fuel 58 cs = some x) :
 ∃ v0 v1 kv, cs[0]? = some v0 ∧ cs[1]? = some v1 ∧ Bs w v0 (KV.k kv) ∧ Bs w v1 (KV.v kv) ∧ (KV.k kv).length + 1 ≤ Rows.uptoBulk x.1 ∧ (KV.v kv).length + 1 ≤ Rows.uptoBulk x.1 := by
 obtain ⟨_, Y, n, hf⟩ := fields_of Tryz.underlying58 h
 obtain ⟨h0, b0⟩ := hf 0 _ rfl
 obtain ⟨h1, b1⟩ := hf 1 _ rfl
 obtain ⟨v0, l0, e0, r0, s0⟩ := fld_by h0
 obtain ⟨v1, l1, e1, r1, s1⟩ := fld_by h1
 exact ⟨v0, v1, ⟨l0, l1⟩, e0, e1, r0, r1, by show l0.length + 1 ≤ _; omega, by show l1.length + 1 ≤ _; omega⟩
theorem cells_at {a : Addr} {n : Nat} {cs : List Value} (h : w.cells? 0 a n = some cs) (hn : 0 < n) : a = ⟨a.block, a.off, none⟩ ∧ cs.length = n ∧ ∀ (i : Nat) (v : Value), cs[i]? = some v → w.cell? ⟨a.block, a.off + i, none⟩ = some v := by
 obtain ⟨_, hl, hc⟩ := World.cells?_some h
 obtain ⟨b, o, s⟩ := a
 have h0 := hc 0 hn
 rw [List.getElem?_eq_getElem (by omega)] at h0
 have hs : s = none := by
  unfold Addr.add at h0
  split at h0
  ·exact spot_none h0
  ·rename_i q; exact absurd rfl q
 subst hs
 refine ⟨rfl, hl, fun i v hi => ?_⟩
 have hil : i < cs.length := (List.getElem?_eq_some_iff.1 hi).1
 have := hc i (by omega)
 rw [add_none', hi] at this
 exact this
theorem rows_of {t e : TypeId} {sz : Nat} {fuel : Nat} {cs : List Value} {x : DataW H × List MemPlace} (ht : Tryz.prog.underlying t = some (.slice e)) (hc : Tryz.prog.cellsOf e = sz) (hsz : 0 < sz) (h : DataW.trod enc Tryz.prog w 0 sp held fuel t cs = some x) :
 (cs = [.slice none 0 0]) ∨ ∃ (A : Option Addr) (len cap n : Nat) (D : Nat → DataW H) (Pl : Nat → List MemPlace), cs = [.slice A len cap] ∧ len ≤ cap ∧ cap ≤ 9223372036854775807 ∧ len ≤ Rows.uptoBulk x.1 ∧ (∀ i, i < len → Rows.uptoBulk (D i) ≤ Rows.uptoBulk x.1) ∧
  (0 < len → ∃ b o, A = some ⟨b, o, none⟩ ∧ b < w.heap.size ∧ ∀ i, i < len → ∃ ce, ce.length = sz ∧ DataW.trod enc Tryz.prog w 0 sp held n e ce = some (D i, Pl i) ∧ ∀ (j : Nat) (v : Value), ce[j]? = some v → w.cell? ⟨b, o + i * sz + j, none⟩ = some v) := by
 rcases open_slice ht h with ⟨rfl, _⟩ | ⟨a, len, cap, m, n, D, Pl, rfl, _, hl, hm, hmm, rfl, hx⟩
 ·exact .inl rfl
 ·right
  have hlm : len ≤ m := by rw [hmm]; split <;> omega
  have hml : maxLen ≤ 9223372036854775807 := by decide
  have h1 := bulk_slice ((List.range len).map D) ((List.range (m - len)).map fun j => D (len + j))
  have h2 := bulk_len ((List.range len).map D)
  refine ⟨some a, len, cap, n, D, Pl, rfl, hl, by omega, by simp at h2 ⊢; omega, fun i hi => ?_, fun h0 => ?_⟩
  ·have h3 := bulk_part (d := D i) (l := (List.range len).map D) (List.mem_map_of_mem (List.mem_range.2 hi))
   simp only []
   omega
  ·rw [hc] at hx
   obtain ⟨ce, q1, q2⟩ := hx 0 (by omega)
   have ha : a.add (0 * sz) = a := by rw [Nat.zero_mul]; unfold Addr.add; rw [if_pos rfl]
   rw [ha] at q1
   obtain ⟨e1, e2, e3⟩ := cells_at q1 hsz
   refine ⟨a.block, a.off, by rw [← e1], ?_, fun i hi => ?_⟩
   ·have hv : ce[0]? = some (ce[0]'(by omega)) := List.getElem?_eq_getElem (by omega)
    exact cell_lt (e3 0 _ hv)
   ·obtain ⟨ce', q1', q2'⟩ := hx i (by omega)
    rw [e1, add_none'] at q1'
    obtain ⟨_, f2, f3⟩ := cells_at q1' hsz
    exact ⟨ce', f2, q2', fun j v hj => f3 j v hj⟩
theorem fld_kvs {n : Nat} {cs : List Value} {o : Nat} {y : DataW H × List MemPlace} (h : DataW.trod enc Tryz.prog w 0 sp held n 23 ((cs.drop o).take (Tryz.prog.cellsOf 23)) = some y) (hb : Rows.uptoBulk y.1 ≤ 1048576) :
 ∃ v l, cs[o]? = some v ∧ KVs w v l ∧ SmallKVs l := by
 rw [show Tryz.prog.cellsOf 23 = 1 by kernel_rfl] at h
 rcases rows_of (sz := 2) Tryz.underlying23 (by kernel_rfl) (by decide) h with e | ⟨A, len, cap, m, D, Pl, e, hl, hm, hbl, hbd, hr⟩
 ·exact ⟨_, [], one_at e, kvs_nil w, ⟨by simp, fun i hi => absurd hi (by simp)⟩⟩
 ·have hz : ∀ i, i < len → ∃ kv : KV, (0 < len → ∀ b o', A = some ⟨b, o', none⟩ → ∃ v0 v1, w.cell? ⟨b, o' + i * 2, none⟩ = some v0 ∧ w.cell? ⟨b, o' + i * 2 + 1, none⟩ = some v1 ∧ Bs w v0 kv.k ∧ Bs w v1 kv.v) ∧ kv.k.length ≤ 1048576 ∧ kv.v.length ≤ 1048576 := fun i hi => by
   obtain ⟨b, o', e1, _, e2⟩ := hr (by omega)
   obtain ⟨ce, _, c2, c3⟩ := e2 i hi
   obtain ⟨v0, v1, kv, k0, k1, r0, r1, s0, s1⟩ := read_kv c2
   have := hbd i hi
   simp only [] at s0 s1
   refine ⟨kv, fun _ b2 o2 e3 => ?_, by omega, by omega⟩
   rw [e1] at e3
   injection e3 with e3
   injection e3 with e4 e5
   subst e4 e5
   exact ⟨v0, v1, c3 0 _ k0, c3 1 _ k1, r0, r1⟩
  obtain ⟨f, hf⟩ := choose_lt hz
  have hll : ((List.range len).map f).length = len := by simp
  have hat : ∀ i, i < len → kvAt ((List.range len).map f) i = f i := fun i hi => by
   rw [kvAt_get _ _ (by rw [hll]; exact hi)]
   simp
  refine ⟨_, (List.range len).map f, one_at e, ⟨A, cap, by rw [hll], by rw [hll]; exact hl, hm, fun h0 => ?_⟩, ⟨by rw [hll]; omega, fun i hi => ?_⟩⟩
  ·rw [hll] at h0
   obtain ⟨b, o', e1, e2, _⟩ := hr h0
   refine ⟨b, o', e1, e2, fun i hi => ?_⟩
   rw [hll] at hi
   rw [hat i hi]
   exact (hf i hi).1 h0 b o' e1
  ·rw [hll] at hi
   rw [hat i hi]
   exact ⟨(hf i hi).2.1, (hf i hi).2.2⟩
theorem read_ur {fuel : Nat} {cs : List Value} {x : DataW H × List MemPlace} (h : DataW.trod enc Tryz.prog w 0 sp held fuel 25 cs = some x) (hb : Rows.uptoBulk x.1 ≤ 1048576) :
 ∃ u, UrR w cs.toArray u ∧ u.Small := by
 obtain ⟨hl, Y, n, hf⟩ := fields_of Tryz.underlying25 h
 rw [show Tryz.prog.cellsOf 25 = 10 by kernel_rfl] at hl
 obtain ⟨h0, b0⟩ := hf 0 _ rfl
 obtain ⟨h1, b1⟩ := hf 1 _ rfl
 obtain ⟨h2, b2⟩ := hf 2 _ rfl
 obtain ⟨h3, b3⟩ := hf 3 _ rfl
 obtain ⟨h4, b4⟩ := hf 4 _ rfl
 obtain ⟨h5, b5⟩ := hf 5 _ rfl
 obtain ⟨h6, b6⟩ := hf 6 _ rfl
 obtain ⟨h7, b7⟩ := hf 7 _ rfl
 obtain ⟨h8, b8⟩ := hf 8 _ rfl
 obtain ⟨h9, b9⟩ := hf 9 _ rfl
 obtain ⟨v0, l0, e0, r0, s0⟩ := fld_by h0
 obtain ⟨v1, l1, e1, r1, s1⟩ := fld_by h1
 obtain ⟨st, e2⟩ := fld_bool h2
 obtain ⟨sl, e3⟩ := fld_bool h3
 obtain ⟨v4, l4, e4, r4, s4⟩ := fld_by h4
 obtain ⟨v5, l5, e5, r5, s5⟩ := fld_by h5
 obtain ⟨v6, l6, e6, r6, s6⟩ := fld_by h6
 obtain ⟨pt, e7, p1, p2⟩ := fld_int h7
 obtain ⟨v8, l8, e8, r8, s8⟩ := fld_kvs h8 (by omega)
 obtain ⟨v9, l9, e9, r9, s9⟩ := fld_kvs h9 (by omega)
 refine ⟨⟨l0, l1, st, sl, l4, l5, l6, pt, l8, l9⟩, ⟨by simpa using hl, ⟨v0, by simpa using e0, r0⟩, ⟨v1, by simpa using e1, r1⟩, by simpa using e2, by simpa using e3, ⟨v4, by simpa using e4, r4⟩, ⟨v5, by simpa using e5, r5⟩, ⟨v6, by simpa using e6, r6⟩, by simpa using e7, ⟨v8, by simpa using e8, r8⟩, ⟨v9, by simpa using e9, r9⟩, p1, p2⟩, ?_⟩
 exact ⟨by show l0.length ≤ _; omega, by show l1.length ≤ _; omega, by show l4.length ≤ _; omega, by show l5.length ≤ _; omega, by show l6.length ≤ _; omega, s8, s9⟩
end
end Go.Proofs.YtfcllhdhfenmcaaGreatDoor
namespace Go.Proofs.YtfcllhdhfenmcaaGreatDoor
open Go.ChangeShapes Go.WideShapes Go.ChangeAt Go.RowKit Go.Deep
section
variable {H : Type} {enc : TypeId × Value → H} {w : World} {sp : Nat → Bool} {held : Bool}
theorem ext_list (cs : List Value) (a n : Nat) : cs.toArray.extract a (a + n) = ((cs.drop a).take n).toArray := by
 apply Array.ext'
 simp
theorem fld_ur {n : Nat} {cs : List Value} {o : Nat} {y : DataW H × List MemPlace} (h : DataW.trod enc Tryz.prog w 0 sp held n 25 ((cs.drop o).take (Tryz.prog.cellsOf 25)) = some y) (hb : Rows.uptoBulk y.1 ≤ 1048576) :
 ∃ u, UrR w (cs.toArray.extract o (o + 10)) u ∧ u.Small := by
 rw [show Tryz.prog.cellsOf 25 = 10 by kernel_rfl] at h
 rw [ext_list]
 exact read_ur h hb
theorem read_hd {fuel : Nat} {cs : List Value} {x : DataW H × List MemPlace} (h : DataW.trod enc Tryz.prog w 0 sp held fuel 34 cs = some x) (hb : Rows.uptoBulk x.1 ≤ 1048576) :
 ∃ g, HdR w cs.toArray g ∧ g.Small := by
 obtain ⟨hl, Y, n, hf⟩ := fields_of Tryz.underlying34 h
 rw [show Tryz.prog.cellsOf 34 = 21 by kernel_rfl] at hl
 obtain ⟨h0, b0⟩ := hf 0 _ rfl
 obtain ⟨h1, b1⟩ := hf 1 _ rfl
 obtain ⟨h2, b2⟩ := hf 2 _ rfl
 obtain ⟨h3, b3⟩ := hf 3 _ rfl
 obtain ⟨h4, b4⟩ := hf 4 _ rfl
 obtain ⟨h5, b5⟩ := hf 5 _ rfl
 obtain ⟨h6, b6⟩ := hf 6 _ rfl
 obtain ⟨h7, b7⟩ := hf 7 _ rfl
 obtain ⟨h8, b8⟩ := hf 8 _ rfl
 obtain ⟨h9, b9⟩ := hf 9 _ rfl
 obtain ⟨h10, b10⟩ := hf 10 _ rfl
 obtain ⟨h11, b11⟩ := hf 11 _ rfl
 obtain ⟨t, e0, t1, t2⟩ := fld_int h0
 obtain ⟨v1, l1, e1, r1, s1⟩ := fld_by h1
 obtain ⟨v2, l2, e2, r2, s2⟩ := fld_by h2
 obtain ⟨v3, l3, e3, r3, s3⟩ := fld_by h3
 obtain ⟨u, r4, s4⟩ := fld_ur h4 (by omega)
 obtain ⟨v5, l5, e5, r5, s5⟩ := fld_kvs h5 (by omega)
 obtain ⟨nm, e6, n1, n2⟩ := fld_u32 h6
 obtain ⟨v7, l7, e7, r7, s7⟩ := fld_by h7
 obtain ⟨v8, l8, e8, r8, s8⟩ := fld_by h8
 obtain ⟨v9, l9, e9, r9, s9⟩ := fld_by h9
 obtain ⟨v10, l10, e10, r10, s10⟩ := fld_by h10
 obtain ⟨pt, e11, p1, p2⟩ := fld_int h11
 refine ⟨⟨t, l1, l2, l3, u, l5, nm, l7, l8, l9, l10, pt⟩, ⟨by simpa using hl, by simpa using e0, ⟨v1, by simpa using e1, r1⟩, ⟨v2, by simpa using e2, r2⟩, ⟨v3, by simpa using e3, r3⟩, r4, ⟨v5, by simpa using e5, r5⟩, by simpa using e6, ⟨v7, by simpa using e7, r7⟩, ⟨v8, by simpa using e8, r8⟩, ⟨v9, by simpa using e9, r9⟩, ⟨v10, by simpa using e10, r10⟩, by simpa using e11, t1, t2, n1, n2, p1, p2⟩, ?_⟩
 exact ⟨by show l1.length ≤ _; omega, by show l2.length ≤ _; omega, by show l3.length ≤ _; omega, s4, s5, by show l7.length ≤ _; omega, by show l8.length ≤ _; omega, by show l9.length ≤ _; omega, by show l10.length ≤ _; omega⟩
theorem fld_hds {n : Nat} {cs : List Value} {o : Nat} {y : DataW H × List MemPlace} (h : DataW.trod enc Tryz.prog w 0 sp held n 26 ((cs.drop o).take (Tryz.prog.cellsOf 26)) = some y) (hb : Rows.uptoBulk y.1 ≤ 1048576) :
 ∃ v l, cs[o]? = some v ∧ Hds w v l ∧ SmallHds l := by
 rw [show Tryz.prog.cellsOf 26 = 1 by kernel_rfl] at h
 rcases rows_of (sz := 21) Tryz.underlying26 (by kernel_rfl) (by decide) h with e | ⟨A, len, cap, m, D, Pl, e, hl, hm, hbl, hbd, hr⟩
 ·exact ⟨_, [], one_at e, hds_nil w, ⟨by simp, fun i hi => absurd hi (by simp)⟩⟩
 ·have hz : ∀ i, i < len → ∃ g : Hd, (∀ b o', A = some ⟨b, o', none⟩ → ∃ ce, CellsAt w b (o' + i * 21) ce ∧ HdR w ce g) ∧ g.Small := fun i hi => by
   obtain ⟨b, o', e1, _, e2⟩ := hr (by omega)
   obtain ⟨ce, _, c2, c3⟩ := e2 i hi
   have := hbd i hi
   obtain ⟨g, g1, g2⟩ := read_hd c2 (by simp only []; omega)
   refine ⟨g, fun b2 o2 e3 => ?_, g2⟩
   rw [e1] at e3
   injection e3 with e3
   injection e3 with e4 e5
   subst e4 e5
   exact ⟨ce.toArray, fun j v hj => c3 j v (by simpa using hj), g1⟩
  obtain ⟨f, hf⟩ := choose_lt hz
  have hll : ((List.range len).map f).length = len := by simp
  have hat : ∀ i, i < len → hdAt ((List.range len).map f) i = f i := fun i hi => by
   rw [hdAt_get _ _ (by rw [hll]; exact hi)]
   simp
  refine ⟨_, (List.range len).map f, one_at e, ⟨A, cap, by rw [hll], by rw [hll]; exact hl, hm, fun h0 => ?_⟩, ⟨by rw [hll]; omega, fun i hi => ?_⟩⟩
  ·rw [hll] at h0
   obtain ⟨b, o', e1, e2, _⟩ := hr h0
   refine ⟨b, o', e1, e2, fun i hi => ?_⟩
   rw [hll] at hi
   rw [hat i hi]
   exact (hf i hi).1 b o' e1
  ·rw [hll] at hi
   rw [hat i hi]
   exact (hf i hi).2
theorem read_ms {fuel : Nat} {cs : List Value} {x : DataW H × List MemPlace} (h : DataW.trod enc Tryz.prog w 0 sp held fuel 28 cs = some x) (hb : Rows.uptoBulk x.1 ≤ 1048576) :
 ∃ m, MsR w cs.toArray m ∧ m.Small := by
 obtain ⟨hl, Y, n, hf⟩ := fields_of Tryz.underlying28 h
 rw [show Tryz.prog.cellsOf 28 = 19 by kernel_rfl] at hl
 obtain ⟨h0, b0⟩ := hf 0 _ rfl
 obtain ⟨h1, b1⟩ := hf 1 _ rfl
 obtain ⟨h2, b2⟩ := hf 2 _ rfl
 obtain ⟨h3, b3⟩ := hf 3 _ rfl
 obtain ⟨h4, b4⟩ := hf 4 _ rfl
 obtain ⟨h5, b5⟩ := hf 5 _ rfl
 obtain ⟨h6, b6⟩ := hf 6 _ rfl
 obtain ⟨h7, b7⟩ := hf 7 _ rfl
 obtain ⟨h8, b8⟩ := hf 8 _ rfl
 obtain ⟨h9, b9⟩ := hf 9 _ rfl
 obtain ⟨rsp, e0⟩ := fld_bool h0
 obtain ⟨v1, l1, e1, r1, s1⟩ := fld_by h1
 obtain ⟨u, r2, s2⟩ := fld_ur h2 (by omega)
 obtain ⟨cd, e3, p1, p2⟩ := fld_int h3
 obtain ⟨v4, l4, e4, r4, s4⟩ := fld_by h4
 obtain ⟨v5, l5, e5, r5, s5⟩ := fld_by h5
 obtain ⟨v6, l6, e6, r6, s6⟩ := fld_hds h6 (by omega)
 obtain ⟨v7, l7, e7, r7, s7⟩ := fld_by h7
 obtain ⟨hb8, e8⟩ := fld_bool h8
 obtain ⟨cp, e9⟩ := fld_bool h9
 refine ⟨⟨rsp, l1, u, cd, l4, l5, l6, l7, hb8, cp⟩, ⟨by simpa using hl, by simpa using e0, ⟨v1, by simpa using e1, r1⟩, r2, by simpa using e3, ⟨v4, by simpa using e4, r4⟩, ⟨v5, by simpa using e5, r5⟩, ⟨v6, by simpa using e6, r6⟩, ⟨v7, by simpa using e7, r7⟩, by simpa using e8, by simpa using e9, p1, p2⟩, ?_⟩
 exact ⟨by show l1.length ≤ _; omega, s2, by show l4.length ≤ _; omega, by show l5.length ≤ _; omega, s6, by show l7.length ≤ _; omega⟩
end
end Go.Proofs.YtfcllhdhfenmcaaGreatDoor
