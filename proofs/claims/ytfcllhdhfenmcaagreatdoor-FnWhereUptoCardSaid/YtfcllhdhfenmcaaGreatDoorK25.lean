/- Part 25 of the proof: laws and walks (merged by a program). -/
import Derived.Test.YtfcllhdhfenmcaaGreatDoorK01
import Derived.Test.YtfcllhdhfenmcaaGreatDoorK19
import Derived.Test.YtfcllhdhfenmcaaGreatDoorK24
import Derived.Lib.Builder
import Derived.Test.YtfcllhdhfenmcaaGreatDoorShelf
set_option linter.all false
set_option maxHeartbeats 8000000
set_option maxRecDepth 100000
namespace Go.Proofs.YtfcllhdhfenmcaaGreatDoor
open Go.RowKit Go.Proofs.Tryz
theorem bInfo : (Tryz.prog.info? 136).map (·.size) = some 2 := by kernel_rfl
theorem bByte : (Tryz.prog.info? 5).map (fun i => (i.zero, i.size, i.bytes)) = some (some (.int .u8 0), 1, 1) := by kernel_rfl
theorem bLies : liesAt Tryz.prog Tryz.prog.depth 136 (2 / Tryz.prog.cellsOf 136) 0 136 1 = true := by kernel_rfl
theorem copyCheck_used (b : Nat) (w : World) (h0 : w.cell? ⟨b, 0, none⟩ = some (.pointer (some ⟨b, 0, none⟩))) :
 Calls Tryz.prog 91 #[.pointer (some ⟨b, 0, none⟩)] w fun e w' => e = .returned (.tuple #[]) ∧ w' = w := by
 obtain ⟨j, hj, _⟩ := Option.map_eq_some_iff.1 bInfo
 go_enter func91, ntmps91
 go_wp2
 rw [Lib.run_neq_ptr_same w _ underlying134 hj]
 go_wp2
 go_end0
 exact ⟨rfl, rfl⟩
theorem copyCheck_fresh (b : Nat) (w : World) (h0 : w.cell? ⟨b, 0, none⟩ = some (.pointer none)) (hsh : w.shape? b = some (136, 2)) (hfz : w.frozen? ⟨b, 0, none⟩ = false) :
 Calls Tryz.prog 91 #[.pointer (some ⟨b, 0, none⟩)] w fun e w' => e = .returned (.tuple #[]) ∧ w' = w.setCell ⟨b, 0, none⟩ (.pointer (some ⟨b, 0, none⟩)) := by
 obtain ⟨j, hj, hjs⟩ := Option.map_eq_some_iff.1 bInfo
 go_enter func91, ntmps91
 go_wp2
 rw [Lib.run_to_unsafe w ⟨b, 0, none⟩ underlying134 underlying181 hj (by rw [hjs]; decide) hsh (Nat.zero_lt_succ 1)]
 simp only [Result.andThen]
 rw [Oper.upon_value]
 go_wp2
 rw [run_callFunc_extern func99 (by kernel_rfl) (by kernel_rfl) (by kernel_rfl) (e := Extern.AbiNoEscape.same) (by kernel_rfl)]
 rw [Lib.run_noEscape]
 simp only [Result.andThen]
 rw [Oper.upon_value]
 go_wp2
 rw [Lib.run_from_unsafe w ⟨b, 0, none⟩ underlying181 underlying134 hj hsh bLies]
 simp only [Result.andThen]
 rw [Oper.upon_value]
 go_wp2
 go_end0
 exact ⟨rfl, rfl⟩
theorem copyCheck_c (B b : Nat) (bs : List Value) (w : World) (h : Lib.IsBuilder 136 5 B b bs w) :
 Calls Tryz.prog 91 #[.pointer (some ⟨b, 0, none⟩)] w fun e w' => e = .returned (.tuple #[]) ∧ (Lib.BuilderAt 136 5 B b (.pointer (some ⟨b, 0, none⟩)) bs w' ∧ Below B w w') := by
 rcases h with h | h
 ·refine (copyCheck_fresh b w h.cell0 h.shape h.frozen0).mono ?_
  rintro e w' ⟨rfl, rfl⟩
  exact ⟨rfl, h.used _, (Below.refl B w).setCell (p := ⟨b, 0, none⟩) h.1 _⟩
 ·refine (copyCheck_used b w h.cell0).mono ?_
  rintro e w' ⟨rfl, rfl⟩
  exact ⟨rfl, h, Below.refl B _⟩
theorem writeByte_c (B b : Nat) (bs : List Value) (c : Int) (w : World) (h : Lib.IsBuilder 136 5 B b bs w) (hlen : bs.length + 1 ≤ 140737488355328) (hBw : B ≤ w.heap.size) :
 Calls Tryz.prog 85 #[.pointer (some ⟨b, 0, none⟩), .int .u8 c] w fun e w' => e = .returned .nilIface ∧ (Lib.BuilderAt 136 5 B b (.pointer (some ⟨b, 0, none⟩)) (bs ++ [.int .u8 c]) w' ∧ Below B w w') := by
 obtain ⟨i0, hi, qz0, qz1, qz2⟩ := info_parts bByte
 go_enter func85, ntmps85
 have hS0 := Below.refl B w
 go_upto_region 0 with fail
 refine pS [_] ?_
 go_upto_region 1 with fail
 refine pR [_] ?_
 refine cC func91 #[.pointer (some ⟨b, 0, none⟩)] (copyCheck_c B b bs _ h) ?_
 rintro e w1 ⟨rfl, h1, hb1⟩
 refine cR ?_
 obtain ⟨hS1, hz1, hy1⟩ := zC hS0 hb1
 refine wN ?_
 obtain ⟨hB, v, hbk, hown, hne⟩ := h1
 have c0 : w1.cell? ⟨b, 0, none⟩ = some (.pointer (some ⟨b, 0, none⟩)) := by rw [Lib.cell_of_heap hbk]; rfl
 have c1 : w1.cell? ⟨b, 1, none⟩ = some v := by rw [Lib.cell_of_heap hbk]; rfl
 go_wp2_with (at_builtin; refine wpList_append_own (o := ⟨_, .call { callee := .builtin .append, args := #[.tmp 11, .tmp 13], argTypes := _ }, _, _, _, _⟩) _ rfl _ _ 22 rfl B 5 i0 (.int .u8 0) 1 1 underlying22 hi qz0 qz1 qz2 rfl (by decide) _ _ _ rfl (hown.alloc _) ⟨w1.heap.size, 0, none⟩ 1 1 [.int .u8 c] rfl rfl ?c1 ?c2 ?c3 ?c4 ?c5 ?_)
 case c1 =>
  intro j u hj
  match j, hj with
  | 0, hj => simp at hj; subst hj; simp [Addr.add]
 case c2 => intro u hu; simp at hu; subst hu; rfl
 case c3 => unfold maxLen; omega
 case c4 => omega
 case c5 => have := hb1.size; simp; omega
 intro v' w2 hown' hgrow _
 have hlt : b < w1.heap.size := by
  rcases Nat.lt_or_ge b w1.heap.size with h' | h'
  ·exact h'
  ·simp [Array.getElem?_eq_none h'] at hbk
 have hb2 : w2.heap[b]? = some (.cells #[.pointer (some ⟨b, 0, none⟩), v] 136 (0, 0)) := by
  rw [hgrow.block b (by simp; omega) (fun e => hne e.symm), Lib.alloc_old w1 _ b hlt]
  exact hbk
 have d0 : w2.cell? ⟨b, 0, none⟩ = some (.pointer (some ⟨b, 0, none⟩)) := by rw [Lib.cell_of_heap hb2]; rfl
 have d1 : w2.cell? ⟨b, 1, none⟩ = some v := by rw [Lib.cell_of_heap hb2]; rfl
 have f1 : w2.frozen? ⟨b, 1, none⟩ = false := Lib.frozen_of_heap hb2 1
 obtain ⟨g, cap, rfl⟩ : ∃ g cap, v' = .slice (some ⟨g, 0, none⟩) (bs.length + 1) cap := by
  rcases hown'.2 with ⟨_, h0⟩ | ⟨g, cap, cur, hv, _⟩
  ·omega
  ·exact ⟨g, cap, hv⟩
 go_wp2
 go_ret
 refine ⟨rfl, ?_, ?_⟩
 ·exact Lib.BuilderAt.put (T := 136) (e := 5) hB hb2 (bs' := bs ++ [.int .u8 c]) (by simpa using hown') (by decide)
 ·exact ((hb1.alloc (by have := hb1.size; omega) _).grown hgrow (by have := hb1.size; simp; omega) (fun k hk => (hown.lt k hk).1)).setCell (p := ⟨b, 1, none⟩) hB _
theorem writeString_c (B b : Nat) (bs : List Value) (s : ByteArray) (w : World) (h : Lib.IsBuilder 136 5 B b bs w) (hlen : bs.length + s.size ≤ 140737488355328) (hBw : B ≤ w.heap.size) :
 Calls Tryz.prog 84 #[.pointer (some ⟨b, 0, none⟩), .string s] w fun e w' => e = .returned (.tuple #[.int .i64 s.size, .nilIface]) ∧ (Lib.BuilderAt 136 5 B b (.pointer (some ⟨b, 0, none⟩)) (bs ++ Lib.strCells s) w' ∧ Below B w w') := by
 obtain ⟨i0, hi, qz0, qz1, qz2⟩ := info_parts bByte
 go_enter func84, ntmps84
 have hS0 := Below.refl B w
 go_upto_region 0 with fail
 refine pS [_, _] ?_
 go_upto_region 1 with fail
 refine pR [_] ?_
 refine cC func91 #[.pointer (some ⟨b, 0, none⟩)] (copyCheck_c B b bs _ h) ?_
 rintro e w1 ⟨rfl, h1, hb1⟩
 refine cR ?_
 obtain ⟨hS1, hz1, hy1⟩ := zC hS0 hb1
 refine wN ?_
 obtain ⟨hB, v, hbk, hown, hne⟩ := h1
 have c0 : w1.cell? ⟨b, 0, none⟩ = some (.pointer (some ⟨b, 0, none⟩)) := by rw [Lib.cell_of_heap hbk]; rfl
 have c1 : w1.cell? ⟨b, 1, none⟩ = some v := by rw [Lib.cell_of_heap hbk]; rfl
 go_wp2_with (at_builtin; refine Lib.wpList_append_own_string (o := ⟨_, .call { callee := .builtin .append, args := #[.tmp 12, .tmp 13], argTypes := _ }, _, _, _, _⟩) _ rfl _ _ 22 9 rfl B 5 i0 underlying22 underlying9 hi qz0 qz1 qz2 _ _ _ rfl hown s rfl ?c3 ?c4 ?c5 ?_)
 case c3 => unfold maxLen; omega
 case c4 => omega
 case c5 => have := hb1.size; omega
 intro v' w2 hown' hgrow _
 have hlt : b < w1.heap.size := by
  rcases Nat.lt_or_ge b w1.heap.size with h' | h'
  ·exact h'
  ·simp [Array.getElem?_eq_none h'] at hbk
 have hb2 : w2.heap[b]? = some (.cells #[.pointer (some ⟨b, 0, none⟩), v] 136 (0, 0)) := by
  rw [hgrow.block b hlt (fun e => hne e.symm)]
  exact hbk
 have d0 : w2.cell? ⟨b, 0, none⟩ = some (.pointer (some ⟨b, 0, none⟩)) := by rw [Lib.cell_of_heap hb2]; rfl
 have d1 : w2.cell? ⟨b, 1, none⟩ = some v := by rw [Lib.cell_of_heap hb2]; rfl
 have f1 : w2.frozen? ⟨b, 1, none⟩ = false := Lib.frozen_of_heap hb2 1
 obtain ⟨ao, n', cap, rfl⟩ : ∃ ao n' cap, v' = .slice ao n' cap := by
  rcases hown'.2 with ⟨hv, _⟩ | ⟨g, cap, cur, hv, _⟩
  ·exact ⟨_, _, _, hv⟩
  ·exact ⟨_, _, _, hv⟩
 go_wp2
 go_ret2
 refine ⟨rfl, ?_, ?_⟩
 ·exact Lib.BuilderAt.put (T := 136) (e := 5) hB hb2 (bs' := bs ++ Lib.strCells s) (by simpa [Lib.strCells_length] using hown') (by decide)
 ·exact (hb1.grown hgrow (by have := hb1.size; omega) (fun k hk => (hown.lt k hk).1)).setCell (p := ⟨b, 1, none⟩) hB _
def lowP (s : ByteArray) (j : Nat) : List UInt8 := (s.data.toList.take j).map upLow
theorem lowP_step (s : ByteArray) (j : Nat) (h : j < s.size) : lowP s (j + 1) = lowP s j ++ [upLow (s[j]'h)] := by
 unfold lowP
 have hl : j < s.data.toList.length := by simpa using h
 rw [List.take_succ_eq_append_getElem hl, List.map_append]
 rfl
theorem lowP_end (s : ByteArray) : (⟨(lowP s s.size).toArray⟩ : ByteArray) = lowS s := by
 unfold lowP lowS
 rw [show s.data.toList.take s.size = s.data.toList from List.take_of_length_le (by simp)]
theorem lowP_len (s : ByteArray) (j : Nat) : (lowP s j).length ≤ s.size := by
 unfold lowP
 simp
 omega
theorem upLow_small (c : UInt8) (h : 97 ≤ c.toNat) : upLow c = c := by unfold upLow; rw [if_neg (by omega)]
def Sml (s : ByteArray) (j : Nat) : Prop := ∀ i, i < j → 97 ≤ gb s i
theorem Sml.take {s : ByteArray} {j : Nat} (h : Sml s j) (hj : j ≤ s.size) : s.data.toList.take j = lowP s j := by
 unfold lowP
 apply List.ext_getElem (by simp)
 intro i h1 h2
 have hi : i < j := by simp at h1; omega
 rw [List.getElem_map, List.getElem_take]
 have hh := h i hi
 rw [gb_at s i (by omega)] at hh
 exact (upLow_small _ hh).symm
theorem Sml.all {s : ByteArray} (h : Sml s s.size) : lowS s = s := by
 rw [← lowP_end, ← h.take (Nat.le_refl _), show s.data.toList.take s.size = s.data.toList from List.take_of_length_le (by simp)]
theorem byteCells_snoc (l : List UInt8) (c : UInt8) : Lib.byteCells (l ++ [c]) = Lib.byteCells l ++ [.int .u8 c.toNat] := by simp [Lib.byteCells]
theorem lowP_extract {s : ByteArray} {j : Nat} (h : Sml s j) (hj : j ≤ s.size) : Lib.strCells (s.extract 0 j) = Lib.byteCells (lowP s j) := by
 rw [Lib.strCells_eq, ← h.take hj]
 congr 1
 simp
theorem yf_slice_h {P : Program} {ops : Array Oper} {S : World → Prop} {o : Oper} {a : Act} (hw : Region.wanted o (yielded ops a.tmps) = true) (T : TypeId) (hu : P.underlying T = some .string) (x h : Operand) (ho : o.op = .slice T x none (some h) none) (s : ByteArray) (hx : a.eval x = .string s) (n : Nat) (hh : a.eval h = .int .i64 n) (hn : n ≤ s.size) : YieldsIf P ops S o (.string (s.extract 0 n)) a :=
 .inl ⟨hw, fun w _ => by
  unfold execOp
  simp [ho, hx, hh, run_sliceAt_string (h := hu), run_slice_string_h w T s hu .i64 n (by omega) (by omega)]⟩
theorem yf_len_s {P : Program} {ops : Array Oper} {S : World → Prop} {o : Oper} {a : Act} (hw : Region.wanted o (yielded ops a.tmps) = true) (T : TypeId) (hu : P.underlying T = some .string) (x : Operand) (ho : o.op = .call { callee := .builtin .len, args := #[x], argTypes := #[T] }) (s : ByteArray) (hx : a.eval x = .string s) : YieldsIf P ops S o (.int .i64 s.size) a :=
 .inl ⟨hw, fun w _ => by
  unfold execOp
  simp [ho, resolve, invoke, builtin, hx, run_len_string (h := hu), goInt]⟩
theorem dwp (s : ByteArray) (pos : Nat) (h : pos < s.size) (hs : 97 ≤ dr s pos ∧ dr s pos ≤ 122) : dw s pos = 1 ∧ 97 ≤ gb s pos := by
 by_cases ha : gb s pos < 128
 ·have := dr_ascii s pos h ha; omega
 ·have := (dr_high s pos h (by omega)).1; omega
theorem Sml.next {s : ByteArray} {pos : Nat} (h : Sml s pos) (h1 : 97 ≤ gb s pos) : Sml s (pos + 1) := fun i hi => by
 rcases Nat.lt_or_ge i pos with h3 | h3
 ·exact h i h3
 ·obtain rfl : i = pos := by omega
  exact h1
theorem asciiToLower_c : LowOK := by
 intro s w hs
 go_enter func75, ntmps75
 go_wp2
 go_loopw [3] (fun v3 wr => ∃ pos : Nat, pos ≤ s.size ∧ v3 = .int .i64 (-1) ∧ wr = w.iter s pos ∧ Sml s pos) (fun _ wr => s.size - wr.iterPos w.heap.size)
 case atStart => exact ⟨0, Nat.zero_le _, rfl, rfl, fun i hi => absurd hi (by omega)⟩
 case round =>
  obtain ⟨pos, hp, rfl, rfl, hseen⟩ := hrel
  have SEEN := Lib.hid hseen
  clear hseen
  by_cases hlt : pos < s.size
  ·have hnx : ∀ ty, (Instr.next (.pointer (some ⟨w.heap.size, 0, none⟩)) true ty).run Tryz.prog (w.iter s pos) = _ := fun ty => next_rune w s pos ty hlt
   have hb := dr_le s pos
   by_cases hsm : 97 ≤ dr s pos ∧ dr s pos ≤ 122
   ·obtain ⟨e1, e2⟩ := dwp s pos hlt hsm
    have NEXT := Lib.hid (SEEN.out.next e2)
    clear e2
    rw [e1] at hnx
    obtain ⟨h97, h122⟩ := hsm
    go_wp2
    go_roundw
    case rel => exact ⟨pos + 1, by omega, rfl, rfl, NEXT.out⟩
    case measure => simp [World.iterPos, World.iter_heap]; omega
   ·obtain ⟨wi, hwi⟩ : ∃ W, W = w.iter s (pos + dw s pos) := ⟨_, rfl⟩
    have hnx' : ∀ ty, (Instr.next (.pointer (some ⟨w.heap.size, 0, none⟩)) true ty).run Tryz.prog (w.iter s pos) = .ok (.tuple #[.bool true, .int .i64 pos, .int .i32 (dr s pos)]) wi := fun ty => by rw [hwi]; exact hnx ty
    clear hnx
    have hBi : Below w.heap.size w wi := by rw [hwi]; exact (Below.refl w.heap.size w).alloc (Nat.le_refl _) _
    have hB0 := Below.refl w.heap.size wi
    have HWI := Lib.hid hwi
    clear hwi
    by_cases h97 : 97 ≤ dr s pos
    all_goals
     first
      | have h122 : ¬ dr s pos ≤ 122 := fun h => hsm ⟨h97, h⟩
      | skip
     clear hsm
     go_upto_region 9 with fail
     have hbs := hBi.size
     clear hnx'
     go_upto_region 9 with fail
     apply wR
     refine cN #[.pointer none, .slice none 0 0] 136 ?_
     intro b w1 b_ge b_lt hb0 hb1
     obtain ⟨hS1, hz1, hy1⟩ := zC hB0 hb1
     refine wP ?_
     refine wN ?_
     have hcell : w1.heap[b]? = some (.cells #[.pointer none, .slice none 0 0] 136 (0, 0)) := hb0
     have hz1 := hS1.size
     have hbge : w.heap.size ≤ b := by omega
     have hBa : Below w.heap.size w w1 := hBi.trans hS1
     clear hb0 hS1 hB0
     have hS0 := Below.refl w.heap.size w1
     go_upto_region 10 with fail
     refine pR [_] ?_
     refine yb (.int .i64 s.size) hS0 (yf_len_s (by kernel_rfl) 9 underlying9 _ rfl s (by kernel_rfl)) ?_
     refine cC func83 #[.pointer (some ⟨b, 0, none⟩), .int .i64 s.size] (Tryz.Builder_Grow_fresh w.heap.size b s.size _ (by omega) hcell (by have := hS0.size; omega) (by omega)) ?_
     rintro e w2 ⟨rfl, h1, hb2⟩
     refine cR ?_
     obtain ⟨hS2, hz2, hy2⟩ := zC hS0 hb2
     refine wN ?_
     go_upto_region 11 with fail
     refine pR [_, _] ?_
     refine yb (.string (s.extract 0 pos)) hS2 (yf_slice_h (by kernel_rfl) 9 underlying9 _ _ rfl s (by kernel_rfl) pos (by kernel_rfl) hp) ?_
     refine cC func84 #[.pointer (some ⟨b, 0, none⟩), .string (s.extract 0 pos)] (writeString_c w.heap.size b [] (s.extract 0 pos) _ (.inr h1) (by simp; omega) (by have := hS2.size; omega)) ?_
     rintro e w3 ⟨rfl, h2, hb3⟩
     refine cR ?_
     obtain ⟨hS3, hz3, hy3⟩ := zC hS2 hb3
     refine wN ?_
     rw [List.nil_append, lowP_extract SEEN.out hp] at h2
     have hBc : Below w.heap.size w w3 := hBa.trans hS3
     clear hS2 hS3 hBa hcell
     generalize (s.extract 0 pos).size = z31
     go_wp2
     go_loopw [7] (fun v7 wr => ∃ j : Nat, pos ≤ j ∧ j ≤ s.size ∧ v7 = .int .i64 j ∧ Lib.BuilderAt 136 5 w.heap.size b (.pointer (some ⟨b, 0, none⟩)) (Lib.byteCells (lowP s j)) wr ∧ Below w.heap.size w wr) (fun v7 _ => s.size - (intOf v7).toNat)
     case atStart => exact ⟨pos, Nat.le_refl _, hp, rfl, h2, hBc⟩
     case round =>
      obtain ⟨j, hpj, hjs, rfl, hbl, hBj⟩ := hrel
      by_cases hj : j < s.size
      ·have hlen : (Lib.byteCells (lowP s j)).length + 1 ≤ 140737488355328 := by
        have := lowP_len s j
        rw [Lib.byteCells_length]; omega
       have hzj := hBj.size
       by_cases h65 : 65 ≤ (s[j]'hj).toNat
       ·by_cases h90 : (s[j]'hj).toNat ≤ 90
        ·have hup : ((upLow (s[j]'hj)).toNat : Int) = ((s[j]'hj).toNat : Int) + 32 := by
          unfold upLow; rw [if_pos ⟨h65, h90⟩]; simp; omega
         go_upto_region 18 with fail
         have hSj := Below.refl w.heap.size wr
         go_upto_region 18 with fail
         refine pR [_] ?_
         refine cC func85 #[.pointer (some ⟨b, 0, none⟩), .int .u8 (((s[j]'hj).toNat : Int) + 32)] (writeByte_c w.heap.size b (Lib.byteCells (lowP s j)) (((s[j]'hj).toNat : Int) + 32) _ (.inr hbl) hlen (by omega)) ?_
         rintro e w1 ⟨rfl, h3, hb1⟩
         refine cR ?_
         obtain ⟨hS1, hz1, hy1⟩ := zC hSj hb1
         refine wN ?_
         rw [← hup, ← byteCells_snoc, ← lowP_step s j hj] at h3
         go_wp2
         go_roundw
         case rel => first | exact ⟨j + 1, by omega, by omega, by go_num, h3, hBj.trans hS1⟩ | (refine ⟨_, _, _, _, _, _, _, _, _, _, _, _, _, _, _, _, _, _, _, _, _, ?_, rfl⟩; exact ⟨j + 1, by omega, by omega, by go_num, h3, hBj.trans hS1⟩)
         case measure => simp [intOf]; omega
        ·have hup : ((upLow (s[j]'hj)).toNat : Int) = ((s[j]'hj).toNat : Int) := by
          unfold upLow; rw [if_neg (fun h => h90 h.2)]
         go_upto_region 18 with fail
         have hSj := Below.refl w.heap.size wr
         go_upto_region 18 with fail
         refine pR [_] ?_
         refine cC func85 #[.pointer (some ⟨b, 0, none⟩), .int .u8 (((s[j]'hj).toNat : Int))] (writeByte_c w.heap.size b (Lib.byteCells (lowP s j)) (((s[j]'hj).toNat : Int)) _ (.inr hbl) hlen (by omega)) ?_
         rintro e w1 ⟨rfl, h3, hb1⟩
         refine cR ?_
         obtain ⟨hS1, hz1, hy1⟩ := zC hSj hb1
         refine wN ?_
         rw [← hup, ← byteCells_snoc, ← lowP_step s j hj] at h3
         go_wp2
         go_roundw
         case rel => first | exact ⟨j + 1, by omega, by omega, by go_num, h3, hBj.trans hS1⟩ | (refine ⟨_, _, _, _, _, _, _, _, _, _, _, _, _, _, _, _, _, _, _, _, _, ?_, rfl⟩; exact ⟨j + 1, by omega, by omega, by go_num, h3, hBj.trans hS1⟩)
         case measure => simp [intOf]; omega
       ·have hup : ((upLow (s[j]'hj)).toNat : Int) = ((s[j]'hj).toNat : Int) := by
         unfold upLow; rw [if_neg (fun h => h65 h.1)]
        go_upto_region 18 with fail
        have hSj := Below.refl w.heap.size wr
        go_upto_region 18 with fail
        refine pR [_] ?_
        refine cC func85 #[.pointer (some ⟨b, 0, none⟩), .int .u8 (((s[j]'hj).toNat : Int))] (writeByte_c w.heap.size b (Lib.byteCells (lowP s j)) (((s[j]'hj).toNat : Int)) _ (.inr hbl) hlen (by omega)) ?_
        rintro e w1 ⟨rfl, h3, hb1⟩
        refine cR ?_
        obtain ⟨hS1, hz1, hy1⟩ := zC hSj hb1
        refine wN ?_
        rw [← hup, ← byteCells_snoc, ← lowP_step s j hj] at h3
        go_wp2
        go_roundw
        case rel => first | exact ⟨j + 1, by omega, by omega, by go_num, h3, hBj.trans hS1⟩ | (refine ⟨_, _, _, _, _, _, _, _, _, _, _, _, _, _, _, _, _, _, _, _, _, ?_, rfl⟩; exact ⟨j + 1, by omega, by omega, by go_num, h3, hBj.trans hS1⟩)
        case measure => simp [intOf]; omega
      ·obtain rfl : j = s.size := by omega
       have hzj := hBj.size
       go_upto_region 19 with fail
       have hSj := Below.refl w.heap.size wr
       go_upto_region 19 with fail
       apply wR
       refine cC func73 #[.pointer (some ⟨b, 0, none⟩)] (Tryz.Builder_String_any w.heap.size b (lowP s s.size) _ (.inr hbl) (by omega)) ?_
       rintro e w1 ⟨rfl, hb1⟩
       refine cR ?_
       obtain ⟨hS1, hz1, hy1⟩ := zC hSj hb1
       refine pQ [_] ?_
       go_wp2
       go_ret
       exact ⟨by rw [← lowP_end]; rfl, hBj.trans hS1⟩
  ·have hnx : ∀ ty, (Instr.next (.pointer (some ⟨w.heap.size, 0, none⟩)) true ty).run Tryz.prog (w.iter s pos) = _ := fun ty => run_next_end w s pos ty hlt
   obtain rfl : pos = s.size := by omega
   go_wp2
   go_ret
   exact ⟨by rw [SEEN.out.all]; rfl, (Below.refl w.heap.size w).alloc (Nat.le_refl _) _⟩
def uCells (u : SU) (v8 v9 : Value) : List Value := [.string u.scheme, .string u.raw, .bool u.star, .bool u.slashes, .string u.user, .string u.pass, .string u.host, .int .i64 u.port, v8, v9]
structure UOK (u : SU) : Prop where
 lo : -9223372036854775808 ≤ u.port
 hi : u.port ≤ 9223372036854775807
 ps : u.ps.length ≤ 4000000000000
 hs : u.hs.length ≤ 4000000000000
structure UAt (w : World) (b o : Nat) (L R : List Value) (T : TypeId) (u : SU) : Prop where
 ex : ∃ v8 v9, VB w b o (uCells u v8 v9) L R T ∧ HPs w v8 u.ps ∧ HPs w v9 u.hs
 ok : UOK u
def fv (k : Nat) : Value := match k with
 | 0 => .nilFunc
 | 2 => .func (.func 76) #[] #[]
 | 3 => .func (.func 87) #[] #[]
 | 4 => .func (.func 94) #[] #[]
 | 5 => .func (.func 102) #[] #[]
 | 6 => .func (.func 103) #[] #[]
 | 7 => .func (.func 104) #[] #[]
 | 8 => .func (.func 105) #[] #[]
 | _ => .func (.func 66) #[] #[]
def SOut (b o : Nat) (L R : List Value) (T : TypeId) (w : World) (r : Res) : Ending → World → Prop := fun e w' =>
 Stp w.heap.size b w w' ∧ ((r.err = false ∧ e = .returned (.tuple #[fv r.next, .string r.str, .nilIface]) ∧ UAt w' b o L R T r.u) ∨
  (r.err = true ∧ ∃ f s t p u', e = .returned (.tuple #[f, .string s, .iface t p]) ∧ UAt w' b o L R T u'))
theorem UAt.of {w w' : World} {b o : Nat} {L R : List Value} {T : TypeId} {u u' : SU} {v8 v9 : Value} {cs : List Value} (hb : VB w b o cs L R T) (h8 : HPs w v8 u.ps) (h9 : HPs w v9 u.hs) (hT : T ≠ 145) (hok : UOK u)
 (hp : u'.ps = u.ps) (hh : u'.hs = u.hs) (hlo : -9223372036854775808 ≤ u'.port) (hhi : u'.port ≤ 9223372036854775807) (hv : VB w' b o (uCells u' v8 v9) L R T) (hst : Stp w.heap.size b w w') : UAt w' b o L R T u' :=
 ⟨⟨v8, v9, hv, by rw [hp]; exact h8.stp hst (Nat.le_refl _) hb.blk hT, by rw [hh]; exact h9.stp hst (Nat.le_refl _) hb.blk hT⟩, ⟨hlo, hhi, by rw [hp]; exact hok.ps, by rw [hh]; exact hok.hs⟩⟩
structure UStart (w : World) (b o : Nat) (L R : List Value) (T : TypeId) (u : SU) (v8 v9 : Value) : Prop where
 vb : VB w b o (uCells u v8 v9) L R T
 h8 : HPs w v8 u.ps
 h9 : HPs w v9 u.hs
 ty : T ≠ 145
 ok : UOK u
theorem UStart.out {w w' : World} {b o : Nat} {L R : List Value} {T : TypeId} {u : SU} {v8 v9 : Value} (h : UStart w b o L R T u v8 v9) {r : Res} (he : r.err = false) (hp : r.u.ps = u.ps) (hh : r.u.hs = u.hs) (hlo : -9223372036854775808 ≤ r.u.port) (hhi : r.u.port ≤ 9223372036854775807)
 (hv : VB w' b o (uCells r.u v8 v9) L R T) (hst : Stp w.heap.size b w w') : SOut b o L R T w r (.returned (.tuple #[fv r.next, .string r.str, .nilIface])) w' :=
 ⟨hst, .inl ⟨he, rfl, UAt.of h.vb h.h8 h.h9 h.ty h.ok hp hh hlo hhi hv hst⟩⟩
theorem UStart.bad {w w' : World} {b o : Nat} {L R : List Value} {T : TypeId} {u : SU} {v8 v9 : Value} (h : UStart w b o L R T u v8 v9) {r : Res} (he : r.err = true) (f : Value) (s : ByteArray) (t : TypeId) (p : Value) (n : Int) (hlo : -9223372036854775808 ≤ n) (hhi : n ≤ 9223372036854775807)
 (hv : VB w' b o (uCells { u with port := n } v8 v9) L R T) (hst : Stp w.heap.size b w w') : SOut b o L R T w r (.returned (.tuple #[f, .string s, .iface t p])) w' :=
 ⟨hst, .inr ⟨he, f, s, t, p, { u with port := n }, rfl, UAt.of (u' := { u with port := n }) h.vb h.h8 h.h9 h.ty h.ok rfl rfl hlo hhi hv hst⟩⟩
theorem errNew_c (s : ByteArray) (w : World) : Calls Tryz.prog 65 #[.string s] w fun e w' => ∃ b, e = .returned (.iface 140 (.pointer (some ⟨b, 0, none⟩))) ∧ Below w.heap.size w w' := by
 have hs0 := Below.refl w.heap.size w
 go_enter func65, ntmps65
 go_upto_region 0 with fail
 refine pS [_] ?_
 go_upto_region 1 with fail
 refine pR [_, .agg #[.string s]] ?_
 refine cN #[.string s] 142 ?_
 intro b w1 b_ge b_lt hb hb1
 obtain ⟨hS1, hz1, hy1⟩ := zC hs0 hb1
 refine wP ?_
 refine pQ [.iface 140 (.pointer (some ⟨b, 0, none⟩)), _] ?_
 go_wp2
 go_ret
 exact ⟨_, rfl, hS1⟩
theorem isASCII_c (c : Nat) (hc : c ≤ 2147483647) (w : World) : Calls Tryz.prog 77 #[.int .i32 ((c : Nat) : Int)] w fun e w' => e = .returned (.bool (isLet c)) ∧ w' = w := by
 unfold isLet
 by_cases h1 : 97 ≤ c ∧ c ≤ 122
 ·rw [show decide ((97 ≤ c ∧ c ≤ 122) ∨ (65 ≤ c ∧ c ≤ 90)) = true from decide_eq_true (.inl h1)]
  obtain ⟨h1, h2⟩ := h1
  go_enter func77, ntmps77
  go_wp2
  go_ret
  all_goals first | exact ⟨rfl, rfl⟩ | (refine ⟨?_, rfl⟩; simp; omega)
 ·by_cases h2 : 65 ≤ c ∧ c ≤ 90
  ·rw [show decide ((97 ≤ c ∧ c ≤ 122) ∨ (65 ≤ c ∧ c ≤ 90)) = true from decide_eq_true (.inr h2)]
   obtain ⟨h3, h4⟩ := h2
   have h5 : ¬ 97 ≤ c := by omega
   clear h1
   go_enter func77, ntmps77
   go_wp2
   go_ret
   all_goals first | exact ⟨rfl, rfl⟩ | (refine ⟨?_, rfl⟩; simp; omega)
  ·rw [show decide ((97 ≤ c ∧ c ≤ 122) ∨ (65 ≤ c ∧ c ≤ 90)) = false from decide_eq_false (by omega)]
   by_cases h3 : 97 ≤ c
   ·have h4 : ¬ c ≤ 122 := fun h => h1 ⟨h3, h⟩
    have h5 : ¬ c ≤ 90 := by omega
    have h6 : 65 ≤ c := by omega
    clear h1 h2
    go_enter func77, ntmps77
    go_wp2
    go_ret
    all_goals first | exact ⟨rfl, rfl⟩ | (refine ⟨?_, rfl⟩; simp; omega)
   ·by_cases h4 : 65 ≤ c
    ·have h5 : ¬ c ≤ 90 := fun h => h2 ⟨h4, h⟩
     clear h1 h2
     go_enter func77, ntmps77
     go_wp2
     go_ret
     all_goals first | exact ⟨rfl, rfl⟩ | (refine ⟨?_, rfl⟩; simp; omega)
    ·clear h1 h2
     go_enter func77, ntmps77
     go_wp2
     go_ret
     all_goals first | exact ⟨rfl, rfl⟩ | (refine ⟨?_, rfl⟩; simp; omega)
theorem yf_seqD {P : Program} {ops : Array Oper} {S : World → Prop} {o : Oper} {a : Act} (hw : Region.wanted o (yielded ops a.tmps) = true) (T T' : TypeId) (x y : Operand) (ho : o.op = .binOp .eql T x y T') (s c : ByteArray) (hx : a.eval x = .string s) (hy : a.eval y = .string c) : YieldsIf P ops S o (.bool (decide (s = c))) a := by
 by_cases h : s = c
 ·rw [decide_eq_true h]; exact yf_seql_t hw T T' x y ho s c hx hy h
 ·rw [decide_eq_false h]; exact yf_seql_f hw T T' x y ho s c hx hy h
theorem scan_rune {σ ρ : Type} (f : Nat → Nat → σ → ρ ⊕ σ) (h1 : ∀ i c c' st, 128 ≤ c → 128 ≤ c' → f i c st = f i c' st) (h2 : ∀ i c st st', 128 ≤ c → f i c st = .inr st' → ∀ j c', 128 ≤ c' → f j c' st' = .inr st') (s : ByteArray) (i : Nat) (st : σ) (h : i < s.size) :
 scanAt f s i st = match f i (dr s i) st with
  | .inl r => .inl r
  | .inr st' => scanAt f s (i + dw s i) st' := by
 rcases dr_cases s i h with ⟨q1, q2, q3⟩ | ⟨q1, q2, q3, q4⟩
 ·rw [scanAt_step _ s i st h, q2, q3]
  cases f i (gb s i) st <;> rfl
 ·rw [scanAt_step _ s i st h, h1 i (gb s i) (dr s i) st q1 q2]
  cases hq : f i (dr s i) st with
  | inl r => rfl
  | inr st' =>
    simp only []
    rw [scanAt_high1 f s st' (fun j c hc => h2 i _ st st' q2 hq j c hc) (dw s i - 1) (i + 1) (by omega) (fun j e1 e2 => (dw_high s i h q1).2 j (by omega) (by omega))]
    congr 1
    omega
theorem scan_go {σ ρ : Type} {f : Nat → Nat → σ → ρ ⊕ σ} {h1 : ∀ i c c' st, 128 ≤ c → 128 ≤ c' → f i c st = f i c' st} {h2 : ∀ i c st st', 128 ≤ c → f i c st = .inr st' → ∀ j c', 128 ≤ c' → f j c' st' = .inr st'} {s : ByteArray} {i : Nat} {st st' : σ} (h : i < s.size) (hf : f i (dr s i) st = .inr st') :
 i + dw s i ≤ s.size ∧ i < i + dw s i ∧ scanAt f s i st = scanAt f s (i + dw s i) st' := by
 have := dw_pos s i h
 refine ⟨dw_le s i h, by omega, ?_⟩
 rw [scan_rune f h1 h2 s i st h, hf]
theorem scan_stop {σ ρ : Type} {f : Nat → Nat → σ → ρ ⊕ σ} {h1 : ∀ i c c' st, 128 ≤ c → 128 ≤ c' → f i c st = f i c' st} {h2 : ∀ i c st st', 128 ≤ c → f i c st = .inr st' → ∀ j c', 128 ≤ c' → f j c' st' = .inr st'} {s : ByteArray} {i : Nat} {st : σ} {r : ρ} (h : i < s.size) (hf : f i (dr s i) st = .inl r) :
 scanAt f s i st = .inl r := by
 rw [scan_rune f h1 h2 s i st h, hf]
theorem u8eq (a : UInt8) (n : Nat) (hn : n < 256) : (UInt8.ofNat n == a) = decide (a.toNat = n) := by
 by_cases h : a.toNat = n
 ·subst h; simp
 ·rw [decide_eq_false h]
  rw [beq_eq_false_iff_ne]
  rintro rfl
  simp at h
  omega
theorem dslash_eq (s : ByteArray) : Lib.hasPrefix s.data.toList [47, 47] = dslash s := by
 unfold dslash
 cases s with
 | mk d =>
   cases d with
   | mk l =>
     match l with
     | [] => rfl
     | [a] => simp [Lib.hasPrefix, List.isPrefixOf, ByteArray.size]
     | a :: c :: r =>
       have e0 : gb ⟨⟨a :: c :: r⟩⟩ 0 = a.toNat := rfl
       have e1 : gb ⟨⟨a :: c :: r⟩⟩ 1 = c.toNat := rfl
       rw [e0, e1]
       have h1 := u8eq a 47 (by decide)
       have h2 := u8eq c 47 (by decide)
       simp [Lib.hasPrefix, List.isPrefixOf, ByteArray.size] at h1 h2 ⊢
       rw [h1, h2]
theorem cutPrefix_eq (s : ByteArray) : (⟨(Lib.trimPrefix s.data.toList [47, 47]).toArray⟩ : ByteArray) = if dslash s then s.extract 2 s.size else s := by
 unfold Lib.trimPrefix
 rw [dslash_eq]
 cases dslash s
 ·simp
 ·simp only [if_true]
  apply ByteArray.ext
  apply Array.ext'
  rw [Lib.extract_data]
  show s.data.toList.drop 2 = _
  rw [List.take_of_length_le (by simp)]
theorem slashes_c (b o : Nat) (L R : List Value) (T : TypeId) (u : SU) (v8 v9 : Value) (s : ByteArray) (w : World) (H : UStart w b o L R T u v8 v9) (hs : s.size ≤ 100000000) :
 Calls Tryz.prog 76 #[.pointer (some ⟨b, o, none⟩), .string s] w (SOut b o L R T w (stSlashes u s)) := by
 have hv := H.vb
 have HU := Lib.hid H
 unfold uCells at hv
 have hst := Stp.refl w.heap.size b w
 have hs0 := Below.refl 0 w
 clear H
 have HC := Lib.hid (Tryz.strings_CutPrefix s ⟨#[47, 47]⟩ w)
 have hun : Hid ((stSlashes u s) = (⟨3, (if dslash s then s.extract 2 s.size else s), false, { u with slashes := dslash s }⟩ : Res)) := by
  unfold Hid stSlashes
  cases dslash s <;> rfl
 have HCC : Hid (Calls Tryz.prog 86 #[.string s, .string ⟨#[47, 47]⟩] w fun e w' => e = .returned (.tuple #[.string (if dslash s then s.extract 2 s.size else s), .bool (dslash s)]) ∧ w = w') := by
  have := HC.out
  rw [show (⟨#[47, 47]⟩ : ByteArray).data.toList = [47, 47] from rfl, dslash_eq, cutPrefix_eq] at this
  exact this.mono fun e w' ⟨h1, h2⟩ => ⟨h1, h2.symm⟩
 rw [hun.out]
 clear HC
 generalize hts : (if dslash s then s.extract 2 s.size else s) = t at HCC hun ⊢
 generalize dslash s = d at HCC hun ⊢
 clear hts hun
 go_enter func76, ntmps76
 go_upto_region 0 with fail
 refine pS [_, _, _] ?_
 go_upto_region 1 with fail
 refine pR [_, _] ?_
 refine cD func86 HCC.out ?_
 rintro e _ ⟨rfl, rfl⟩
 refine cR ?_
 refine pP [_, .string t, .bool d, _, .pointer (some ⟨b, o, none⟩), .pointer (some ⟨b, o + 3, none⟩)] ?_
 refine Wl.step (fun K hK => ?_)
 refine sV b o 3 [.bool d] hv ?_
 intro w1 hv' hO1
 replace hst := hst.sto hO1
 have hS1 := hs0.trans (hO1.below (by omega))
 have hz1 := hS1.size
 clear hv
 have hv := hv'
 clear hv'
 have hzz1 := hO1.size
 replace hO1 := Lib.hid hO1
 refine hK _ _ ?_
 clear hK K
 (try simp only [Act.put, zD, zE, zF])
 refine wN ?_
 go_upto_region 2 with fail
 refine pS [_, .func (.func 87) #[] #[], _, _] ?_
 go_wp2
 go_ret3
 exact HU.out.out (r := ⟨3, t, false, { u with slashes := d }⟩) rfl rfl rfl HU.out.ok.lo HU.out.ok.hi hv hst
theorem fUser1 : ∀ i c c' st, 128 ≤ c → 128 ≤ c' → fUser i c st = fUser i c' st := by
 intro i c c' st h h'
 unfold fUser
 rw [if_neg (by omega), if_neg (by omega), if_neg (by omega), if_neg (show ¬ c' = 91 by omega), if_neg (show ¬ c' = 58 by omega), if_neg (show ¬ c' = 64 by omega)]
theorem fUser2 : ∀ i c st st', 128 ≤ c → fUser i c st = .inr st' → ∀ j c', 128 ≤ c' → fUser j c' st' = .inr st' := by
 intro i c st st' h he j c' h'
 unfold fUser
 rw [if_neg (by omega), if_neg (by omega), if_neg (by omega)]
theorem user_c (b o : Nat) (L R : List Value) (T : TypeId) (u : SU) (v8 v9 : Value) (s : ByteArray) (w : World) (H : UStart w b o L R T u v8 v9) (hs : s.size ≤ 100000000) :
 Calls Tryz.prog 87 #[.pointer (some ⟨b, o, none⟩), .string s] w (SOut b o L R T w (stUser u s)) := by
 have hv := H.vb
 have HU := Lib.hid H
 unfold uCells at hv
 have hst := Stp.refl w.heap.size b w
 have hs0 := Below.refl 0 w
 clear H
 go_enter func87, ntmps87
 go_wp2
 have hit0 : Itr (w.iter s 0) w.heap.size s 0 := World.iter_heap w s 0
 have hW2 : Below w.heap.size w (w.iter s 0) := (Below.refl w.heap.size w).alloc (Nat.le_refl _) _
 obtain ⟨ib, hib⟩ : ∃ ib, ib = w.heap.size := ⟨_, rfl⟩
 obtain ⟨wi, hwi⟩ : ∃ wi, wi = w.iter s 0 := ⟨_, rfl⟩
 rw [← hib] at hit0 ⊢
 rw [← hwi] at hit0 hW2 ⊢
 have hst2 := hst.grow hW2
 have hv2 := hv.grow hW2
 have hibz : w.heap.size ≤ ib := by omega
 clear hwi hib hW2 hst hv hs0
 go_loopw [7] (fun v7 wr => ∃ (pos : Nat) (e : Nat), pos ≤ s.size ∧ v7 = .int .i64 ((e : Nat) : Int) ∧ (e = 0 ∨ e < pos) ∧ Itr wr ib s pos ∧ VB wr b o [.string u.scheme, .string u.raw, .bool u.star, .bool u.slashes, .string u.user, .string u.pass, .string u.host, .int .i64 u.port, v8, v9] L R T ∧ Stp w.heap.size b w wr ∧ Hid (scanAt fUser s 0 0 = scanAt fUser s pos e)) (fun _  wr => s.size - wr.iterPos ib)
 case atStart => exact ⟨0, 0, Nat.zero_le _, rfl, .inl rfl, hit0, hv2, hst2, rfl⟩
 case round =>
  clear hit0 hv2 hst2
  obtain ⟨pos, e, hpt, rfl, he, hit, hv, hst, HI⟩ := hrel
  rw [hit.pos]
  have hs0 := Below.refl 0 wr
  by_cases hlt : pos < s.size
  ·have hN := dr_le s pos
   by_cases c1 : dr s pos = 91
   ·have HR : Hid (stUser u s = ⟨4, s.extract pos s.size, false, u⟩) := by unfold Hid stUser; rw [HI.out, scan_stop (h1 := fUser1) (h2 := fUser2) hlt (show fUser pos (dr s pos) e = .inl (false, pos, e) by simp [fUser, c1])]
    go_upto_region 3 with fail
    apply wR
    refine Wl.step (fun K hK => ?_)
    refine step_next rfl _ rfl ib s pos (by kernel_rfl) hit hlt ?_
    intro w1 hit' hO
    replace hv := hv.iter hit hO
    replace hst := hst.fresh hO hibz
    have hS1 : Below 0 wr w1 := hO.below (Nat.zero_le _)
    clear hit
    have hit : Itr w1 ib s (pos + dw s pos) := hit'
    clear hit' hO
    refine hK _ _ ?_
    clear hK K
    (try simp only [Act.put, zD, zE, zF])
    refine pQ [.bool true] ?_
    go_upto_region 4 with fail
    refine pS [.int .i64 (pos : Nat), .int .i32 (dr s pos : Nat), _, _] ?_
    go_upto_region 5 with fail
    refine pR [_] ?_
    refine ieT .i32 (dr s pos : Nat) 91 ?_
    refine wN ?_
    go_upto_region 6 with fail
    refine wp_region_noPanic ?_
    have hSd6 := hS1.drew
    have hzd6 := hSd6.size
    have hze6 : (w1).drew.heap.size = (w1).heap.size := rfl
    refine wp_region_held_drew (S := fun w' => Below (0) wr w') (by kernel_rfl) hSd6 (fun _ => ?_)
    replace hst := hst.grow (below_drew1 _)
    replace hv := hv.grow (below_drew1 _)
    refine tk 0 (.string s) rfl yR hSd6 ?_
    refine tk 1 (.int .i64 (pos : Nat)) rfl yR hSd6 ?_
    refine tk 2 (.string (s.extract ((pos)) s.size)) rfl (yf_cut_l (by kernel_rfl) 9 underlying9 _ _ rfl s (by kernel_rfl) (pos) (by kernel_rfl) (by omega)) hSd6 ?_
    refine tk 3 (.func (.func 94) #[] #[]) rfl yR hSd6 ?_
    refine tk 4 (.string (s.extract ((pos)) s.size)) rfl yR hSd6 ?_
    refine tk 5 .nilIface rfl yR hSd6 ?_
    refine wpAnyH_done (by kernel_rfl) ?_ _
    refine NoPanic.normal ?_
    go_wp2
    go_ret3
    rw [HR.out]
    exact HU.out.out rfl rfl rfl HU.out.ok.lo HU.out.ok.hi hv hst
   ·by_cases c2 : dr s pos = 58
    ·obtain ⟨g1, g2, g4⟩ := scan_go (h1 := fUser1) (h2 := fUser2) hlt (show fUser pos (dr s pos) e = .inr pos from by simp [fUser, c2])
     have HG : Hid (scanAt fUser s 0 0 = scanAt fUser s (pos + dw s pos) pos) := HI.out.trans g4
     clear g4 HI
     go_upto_region 3 with fail
     apply wR
     refine Wl.step (fun K hK => ?_)
     refine step_next rfl _ rfl ib s pos (by kernel_rfl) hit hlt ?_
     intro w1 hit' hO
     replace hv := hv.iter hit hO
     replace hst := hst.fresh hO hibz
     have hS1 : Below 0 wr w1 := hO.below (Nat.zero_le _)
     clear hit
     have hit : Itr w1 ib s (pos + dw s pos) := hit'
     clear hit' hO
     refine hK _ _ ?_
     clear hK K
     (try simp only [Act.put, zD, zE, zF])
     refine pQ [.bool true] ?_
     go_upto_region 4 with fail
     refine pS [.int .i64 (pos : Nat), .int .i32 (dr s pos : Nat), _, _] ?_
     go_upto_region 5 with fail
     refine pR [_] ?_
     refine ieF .i32 (dr s pos : Nat) 91 ?_
     refine wN ?_
     go_upto_region 7 with fail
     refine pR [_] ?_
     refine ieT .i32 (dr s pos : Nat) 58 ?_
     refine wN ?_
     go_upto_region 8 with fail
     refine pS [_, _] ?_
     go_upto_region 9 with fail
     refine pR [_] ?_
     refine ieF .i32 (dr s pos : Nat) 64 ?_
     refine wN ?_
     go_wp2
     go_roundw
     case rel => exact ⟨pos + dw s pos, pos, g1, rfl, .inr g2, hit, hv, hst, HG⟩
     case measure => rw [hit.pos]; omega
    ·by_cases c3 : dr s pos = 64
     ·by_cases c4 : 0 < e
      ·have HR : Hid (stUser u s = ⟨4, s.extract (pos + 1) s.size, false, { u with user := s.extract 0 e, pass := s.extract (e + 1) pos }⟩) := by
        unfold Hid stUser
        rw [HI.out, scan_stop (h1 := fUser1) (h2 := fUser2) hlt (show fUser pos (dr s pos) e = .inl (true, pos, e) by simp [fUser, c3])]
        simp only []
        rw [if_pos c4]
       go_upto_region 3 with fail
       apply wR
       refine Wl.step (fun K hK => ?_)
       refine step_next rfl _ rfl ib s pos (by kernel_rfl) hit hlt ?_
       intro w1 hit' hO
       replace hv := hv.iter hit hO
       replace hst := hst.fresh hO hibz
       have hS1 : Below 0 wr w1 := hO.below (Nat.zero_le _)
       clear hit
       have hit : Itr w1 ib s (pos + dw s pos) := hit'
       clear hit' hO
       refine hK _ _ ?_
       clear hK K
       (try simp only [Act.put, zD, zE, zF])
       refine pQ [.bool true] ?_
       go_upto_region 4 with fail
       refine pS [.int .i64 (pos : Nat), .int .i32 (dr s pos : Nat), _, _] ?_
       go_upto_region 5 with fail
       refine pR [_] ?_
       refine ieF .i32 (dr s pos : Nat) 91 ?_
       refine wN ?_
       go_upto_region 7 with fail
       refine pR [_] ?_
       refine ieF .i32 (dr s pos : Nat) 58 ?_
       refine wN ?_
       go_upto_region 9 with fail
       refine pR [_] ?_
       refine ieT .i32 (dr s pos : Nat) 64 ?_
       refine wN ?_
       go_upto_region 10 with fail
       refine pR [_] ?_
       refine igT .i64 (e : Nat) 0 ?_
       refine wN ?_
       go_upto_region 11 with fail
       refine pR [_, _, _] ?_
       refine cuH s e underlying9 ?_
       refine pP [.pointer (some ⟨b, o, none⟩), .pointer (some ⟨b, o + 4, none⟩)] ?_
       refine Wl.step (fun K hK => ?_)
       refine sV b o 4 [.string (s.extract 0 ((e)))] hv ?_
       intro w2 hv' hO2
       replace hst := hst.sto hO2
       have hS2 := hS1.trans (hO2.below (by omega))
       have hz2 := hS2.size
       clear hv
       have hv := hv'
       clear hv'
       have hzz2 := hO2.size
       replace hO2 := Lib.hid hO2
       refine hK _ _ ?_
       clear hK K
       (try simp only [Act.put, zD, zE, zF])
       refine wN ?_
       go_upto_region 12 with fail
       refine pR [_, _, _] ?_
       refine iA e 1 ?_
       refine pP [_] ?_
       refine yb (.string (s.extract (((e) + 1)) ((pos)))) hS2 (yf_cut_lh (by kernel_rfl) 9 underlying9 _ _ _ rfl s (by kernel_rfl) ((e) + 1) (pos) (by kernel_rfl) (by kernel_rfl) (by omega) (by omega)) ?_
       refine pP [.pointer (some ⟨b, o, none⟩), .pointer (some ⟨b, o + 5, none⟩)] ?_
       refine Wl.step (fun K hK => ?_)
       refine sV b o 5 [.string (s.extract (((e) + 1)) ((pos)))] hv ?_
       intro w3 hv' hO3
       replace hst := hst.sto hO3
       have hS3 := hS2.trans (hO3.below (by omega))
       have hz3 := hS3.size
       clear hv
       have hv := hv'
       clear hv'
       have hzz3 := hO3.size
       replace hO3 := Lib.hid hO3
       refine hK _ _ ?_
       clear hK K
       (try simp only [Act.put, zD, zE, zF])
       refine wN ?_
       go_upto_region 14 with fail
       refine wp_region_noPanic ?_
       have hSd14 := hS3.drew
       have hzd14 := hSd14.size
       have hze14 : (w3).drew.heap.size = (w3).heap.size := rfl
       refine wp_region_held_drew (S := fun w' => Below (0) wr w') (by kernel_rfl) hSd14 (fun _ => ?_)
       replace hst := hst.grow (below_drew1 _)
       replace hv := hv.grow (below_drew1 _)
       refine tk 0 (.string s) rfl yR hSd14 ?_
       refine tk 1 (.int .i64 (pos : Nat)) rfl yR hSd14 ?_
       refine tk 2 (.int .i64 ((pos) + 1 : Nat)) rfl (yf_addN (by kernel_rfl) 3 3 _ _ rfl (pos) 1 (by kernel_rfl) (by kernel_rfl) (by omega)) hSd14 ?_
       refine tk 3 (.string (s.extract (((pos) + 1)) s.size)) rfl (yf_cut_l (by kernel_rfl) 9 underlying9 _ _ rfl s (by kernel_rfl) ((pos) + 1) (by kernel_rfl) (by omega)) hSd14 ?_
       refine tk 4 (.func (.func 94) #[] #[]) rfl yR hSd14 ?_
       refine tk 5 (.string (s.extract (((pos) + 1)) s.size)) rfl yR hSd14 ?_
       refine tk 6 .nilIface rfl yR hSd14 ?_
       refine wpAnyH_done (by kernel_rfl) ?_ _
       refine NoPanic.normal ?_
       go_wp2
       go_ret3
       rw [HR.out]
       exact HU.out.out rfl rfl rfl HU.out.ok.lo HU.out.ok.hi hv hst
      ·have HR : Hid (stUser u s = ⟨4, s.extract (pos + 1) s.size, false, { u with user := s.extract 0 pos }⟩) := by
        unfold Hid stUser
        rw [HI.out, scan_stop (h1 := fUser1) (h2 := fUser2) hlt (show fUser pos (dr s pos) e = .inl (true, pos, e) by simp [fUser, c3])]
        simp only []
        rw [if_neg c4]
       go_upto_region 3 with fail
       apply wR
       refine Wl.step (fun K hK => ?_)
       refine step_next rfl _ rfl ib s pos (by kernel_rfl) hit hlt ?_
       intro w1 hit' hO
       replace hv := hv.iter hit hO
       replace hst := hst.fresh hO hibz
       have hS1 : Below 0 wr w1 := hO.below (Nat.zero_le _)
       clear hit
       have hit : Itr w1 ib s (pos + dw s pos) := hit'
       clear hit' hO
       refine hK _ _ ?_
       clear hK K
       (try simp only [Act.put, zD, zE, zF])
       refine pQ [.bool true] ?_
       go_upto_region 4 with fail
       refine pS [.int .i64 (pos : Nat), .int .i32 (dr s pos : Nat), _, _] ?_
       go_upto_region 5 with fail
       refine pR [_] ?_
       refine ieF .i32 (dr s pos : Nat) 91 ?_
       refine wN ?_
       go_upto_region 7 with fail
       refine pR [_] ?_
       refine ieF .i32 (dr s pos : Nat) 58 ?_
       refine wN ?_
       go_upto_region 9 with fail
       refine pR [_] ?_
       refine ieT .i32 (dr s pos : Nat) 64 ?_
       refine wN ?_
       go_upto_region 10 with fail
       refine pR [_] ?_
       refine igF .i64 (e : Nat) 0 ?_
       refine wN ?_
       go_upto_region 13 with fail
       refine pR [_, _, _] ?_
       refine cuH s pos underlying9 ?_
       refine pP [.pointer (some ⟨b, o, none⟩), .pointer (some ⟨b, o + 4, none⟩)] ?_
       refine Wl.step (fun K hK => ?_)
       refine sV b o 4 [.string (s.extract 0 ((pos)))] hv ?_
       intro w2 hv' hO2
       replace hst := hst.sto hO2
       have hS2 := hS1.trans (hO2.below (by omega))
       have hz2 := hS2.size
       clear hv
       have hv := hv'
       clear hv'
       have hzz2 := hO2.size
       replace hO2 := Lib.hid hO2
       refine hK _ _ ?_
       clear hK K
       (try simp only [Act.put, zD, zE, zF])
       refine wN ?_
       go_upto_region 14 with fail
       refine wp_region_noPanic ?_
       have hSd14 := hS2.drew
       have hzd14 := hSd14.size
       have hze14 : (w2).drew.heap.size = (w2).heap.size := rfl
       refine wp_region_held_drew (S := fun w' => Below (0) wr w') (by kernel_rfl) hSd14 (fun _ => ?_)
       replace hst := hst.grow (below_drew1 _)
       replace hv := hv.grow (below_drew1 _)
       refine tk 0 (.string s) rfl yR hSd14 ?_
       refine tk 1 (.int .i64 (pos : Nat)) rfl yR hSd14 ?_
       refine tk 2 (.int .i64 ((pos) + 1 : Nat)) rfl (yf_addN (by kernel_rfl) 3 3 _ _ rfl (pos) 1 (by kernel_rfl) (by kernel_rfl) (by omega)) hSd14 ?_
       refine tk 3 (.string (s.extract (((pos) + 1)) s.size)) rfl (yf_cut_l (by kernel_rfl) 9 underlying9 _ _ rfl s (by kernel_rfl) ((pos) + 1) (by kernel_rfl) (by omega)) hSd14 ?_
       refine tk 4 (.func (.func 94) #[] #[]) rfl yR hSd14 ?_
       refine tk 5 (.string (s.extract (((pos) + 1)) s.size)) rfl yR hSd14 ?_
       refine tk 6 .nilIface rfl yR hSd14 ?_
       refine wpAnyH_done (by kernel_rfl) ?_ _
       refine NoPanic.normal ?_
       go_wp2
       go_ret3
       rw [HR.out]
       exact HU.out.out rfl rfl rfl HU.out.ok.lo HU.out.ok.hi hv hst
     ·obtain ⟨g1, g2, g4⟩ := scan_go (h1 := fUser1) (h2 := fUser2) hlt (show fUser pos (dr s pos) e = .inr e from by simp [fUser, c1, c2, c3])
      have HG : Hid (scanAt fUser s 0 0 = scanAt fUser s (pos + dw s pos) e) := HI.out.trans g4
      clear g4 HI
      go_upto_region 3 with fail
      apply wR
      refine Wl.step (fun K hK => ?_)
      refine step_next rfl _ rfl ib s pos (by kernel_rfl) hit hlt ?_
      intro w1 hit' hO
      replace hv := hv.iter hit hO
      replace hst := hst.fresh hO hibz
      have hS1 : Below 0 wr w1 := hO.below (Nat.zero_le _)
      clear hit
      have hit : Itr w1 ib s (pos + dw s pos) := hit'
      clear hit' hO
      refine hK _ _ ?_
      clear hK K
      (try simp only [Act.put, zD, zE, zF])
      refine pQ [.bool true] ?_
      go_upto_region 4 with fail
      refine pS [.int .i64 (pos : Nat), .int .i32 (dr s pos : Nat), _, _] ?_
      go_upto_region 5 with fail
      refine pR [_] ?_
      refine ieF .i32 (dr s pos : Nat) 91 ?_
      refine wN ?_
      go_upto_region 7 with fail
      refine pR [_] ?_
      refine ieF .i32 (dr s pos : Nat) 58 ?_
      refine wN ?_
      go_upto_region 9 with fail
      refine pR [_] ?_
      refine ieF .i32 (dr s pos : Nat) 64 ?_
      refine wN ?_
      go_wp2
      go_roundw
      case rel => exact ⟨pos + dw s pos, e, g1, rfl, (by omega), hit, hv, hst, HG⟩
      case measure => rw [hit.pos]; omega
  ·have HR : Hid (stUser u s = ⟨4, s, false, u⟩) := by unfold Hid stUser; rw [HI.out, scanAt_end _ _ _ _ hlt]
   go_upto_region 3 with fail
   apply wR
   refine Wl.step (fun K hK => ?_)
   refine step_next_end rfl _ rfl ib s pos (by kernel_rfl) hit hlt ?_
   rintro _ rfl
   have hS1 := hs0
   refine hK _ _ ?_
   clear hK K
   (try simp only [Act.put, zD, zE, zF])
   refine pQ [.bool false] ?_
   go_upto_region 15 with fail
   refine pS [_, .func (.func 94) #[] #[], _, _] ?_
   go_wp2
   go_ret3
   rw [HR.out]
   exact HU.out.out rfl rfl rfl HU.out.ok.lo HU.out.ok.hi hv hst
end Go.Proofs.YtfcllhdhfenmcaaGreatDoor
