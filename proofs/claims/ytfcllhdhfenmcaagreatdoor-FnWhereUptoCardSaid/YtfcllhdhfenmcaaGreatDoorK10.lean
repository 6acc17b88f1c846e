/- Part 10 of the proof: laws and walks (merged by a program). -/
import Derived.Test.YtfcllhdhfenmcaaGreatDoorK01
import Derived.Test.YtfcllhdhfenmcaaGreatDoorK09
import Derived.Deep.RegionHeld3
set_option linter.all false
set_option maxHeartbeats 8000000
set_option maxRecDepth 100000
namespace Go.Proofs.YtfcllhdhfenmcaaGreatDoor
open Go.RowKit Go.Proofs.Tryz
def kvText (x : KV) : By := if 0 < x.v.length then x.k ++ [61] ++ x.v else x.k
def ptextTo (sep : By) (l : List KV) : Nat → By
 | 0 => []
 | k + 1 => (if 0 < k then ptextTo sep l k ++ sep else ptextTo sep l k) ++ kvText (kvAt l k)
theorem kvText_len {x : KV} (h : x.Small) : (kvText x).length ≤ 2097153 := by
 have h1 := h.k
 have h2 := h.v
 unfold kvText
 split
 ·simp; omega
 ·omega
theorem ptext_len (sep : By) (hs : sep.length = 1) {l : List KV} (h : SmallKVs l) : ∀ k, k ≤ l.length → (ptextTo sep l k).length ≤ k * 2097154 := by
 intro k
 induction k with
 | zero => intro _; simp [ptextTo]
 | succ k ih =>
   intro hk
   have i1 := ih (by omega)
   have i2 := kvText_len (h.each k (by omega))
   simp only [ptextTo, List.length_append]
   split
   ·simp only [List.length_append]; omega
   ·omega
theorem paramsText_c (v : Value) (l : List KV) (sep : UInt8) (w : World) (h : KVs w v l) (hsm : SmallKVs l) :
 Calls Tryz.prog 47 #[v, .int .u8 sep.toNat] w fun e w' => ∃ r, e = .returned r ∧ Ow w.heap.size w' r (ptextTo [sep] l l.length) ∧ Below w.heap.size w w' := by
 have hlen := hsm.len
 have HSM := Lib.hid hsm; clear hsm
 obtain ⟨A, cp, rfl, h1, h2, h3⟩ := h
 have H3 := Lib.hid h3; clear h3
 go_enter func47, ntmps47
 go_wp2
 go_loopw [5, 6] (fun out i wr => ∃ k : Nat, k ≤ l.length ∧ i = .int .i64 k ∧ Ow w.heap.size wr out (ptextTo [sep] l k) ∧ Below w.heap.size w wr) (fun _ i _ => l.length - (intOf i).toNat)
 case atStart => exact ⟨0, Nat.zero_le _, rfl, ow_nil _ _, Below.refl _ _⟩
 case round =>
  obtain ⟨k, hk, rfl, HO, hB⟩ := hrel
  by_cases hlt : k < l.length
  ·obtain ⟨b, o, rfl, hl0, hc⟩ := H3.out (by omega)
   obtain ⟨kv, vv, e1, e2, r1, r2⟩ := hc k hlt
   clear hc
   have hlt' : (k : Int) < (l.length : Int) := by omega
   have hpl := ptext_len [sep] rfl HSM.out k (by omega)
   have hk1 := (HSM.out.each k hlt).k
   have hk2 := (HSM.out.each k hlt).v
   have E1 := Lib.hid e1
   have E2 := Lib.hid e2
   replace e1 := (hB.cell (p := ⟨b, o + k * 2, none⟩) hl0).trans E1.out
   replace e2 := (hB.cell (p := ⟨b, o + k * 2 + 1, none⟩) hl0).trans E2.out
   obtain ⟨A1, c1, rfl⟩ := r1.shape
   obtain ⟨A2, c2, rfl⟩ := r2.shape
   obtain ⟨lv, hlv⟩ : ∃ n, n = (kvAt l k).v.length := ⟨_, rfl⟩
   rw [← hlv] at e2 r2 E2
   have HLV := Lib.hid hlv
   have hlv2 : lv ≤ 1048576 := by omega
   clear hlv
   have hbase := hB.size
   have hstep : Hid (ptextTo [sep] l (k + 1) = (if 0 < k then ptextTo [sep] l k ++ [sep] else ptextTo [sep] l k) ++ kvText (kvAt l k)) := rfl
   by_cases hk0 : 0 < k
   ·by_cases hv0 : 0 < lv
    ·go_wp2_with (first | (at_builtin; refine append_bs (w0 := w) (o := ⟨_, .call { callee := .builtin .append, args := #[.tmp 15, .tmp 17], argTypes := _ }, _, _, _, _⟩) rfl _ _ rfl w.heap.size _ _ (ptextTo [sep] l k) [sep] rfl rfl (HO.alloc _) (bs_lit wr [sep] _ _ 1 (by simp) (by simp) _ rfl) (hB.alloc hbase _) (by (try simp); omega) (by (try simp); omega) ?_; intro v1 W1 ho1 hB1 hs1 _; replace e1 := (hB1.cell (p := ⟨b, o + k * 2, none⟩) hl0).trans E1.out; replace e2 := (hB1.cell (p := ⟨b, o + k * 2 + 1, none⟩) hl0).trans E2.out) | (at_builtin; refine append_bs (w0 := w) (o := ⟨_, .call { callee := .builtin .append, args := #[.tmp 19, .tmp 24], argTypes := _ }, _, _, _, _⟩) rfl _ _ rfl w.heap.size _ _ (ptextTo [sep] l k ++ [sep]) (kvAt l k).k rfl rfl ho1 (r1.grow hB1) hB1 hB1.size (by (try simp); omega) ?_; intro v2 W2 ho2 hB2 hs2 _; replace e1 := (hB2.cell (p := ⟨b, o + k * 2, none⟩) hl0).trans E1.out; replace e2 := (hB2.cell (p := ⟨b, o + k * 2 + 1, none⟩) hl0).trans E2.out))
     go_region_held3 (fun w' => w'.cell? ⟨b, o + k * 2 + 1, none⟩ = some (.slice A2 lv c2))
      (first
       | go_keep
       | exact (hB3.cell (p := ⟨b, o + k * 2 + 1, none⟩) hl0).trans E2.out
       | exact (hB4.cell (p := ⟨b, o + k * 2 + 1, none⟩) hl0).trans E2.out)
      (first
       | (refine step_append_bs (w0 := w) (o := ⟨_, .call { callee := .builtin .append, args := #[.tmp 33, .tmp 34], argTypes := _ }, _, _, _, _⟩) rfl _ _ rfl w.heap.size _ _ (ptextTo [sep] l k ++ [sep] ++ (kvAt l k).k) [61] (by rfl) (by rfl) ((ho2.alloc _).drew) ((bs_lit W2 [61] _ _ 1 (by simp) (by simp) _ rfl).drew) ((hB2.alloc hB2.size _).drew) (by have := hB2.size; (try simp); omega) (by (try simp); omega) ?_; intro v3 W3 ho3 hB3 hs3 _)
       | (refine step_append_bs (w0 := w) (o := ⟨_, .call { callee := .builtin .append, args := #[.tmp 35, .tmp 40], argTypes := _ }, _, _, _, _⟩) rfl _ _ rfl w.heap.size _ _ (ptextTo [sep] l k ++ [sep] ++ (kvAt l k).k ++ [61]) (kvAt l k).v (by rfl) (by rfl) ho3 (r2.grow hB3) hB3 hB3.size (by (try simp); omega) ?_; intro v4 W4 ho4 hB4 hs4 _))
     go_wp2
     go_roundw
     case rel =>
      refine ⟨k + 1, by omega, by go_num, ?_, hB4⟩
      rw [hstep.out, if_pos hk0, kvText, if_pos (by have := HLV.out; omega)]
      simpa using ho4
     case measure => simp [intOf]; omega
    ·go_wp2_with (first | (at_builtin; refine append_bs (w0 := w) (o := ⟨_, .call { callee := .builtin .append, args := #[.tmp 15, .tmp 17], argTypes := _ }, _, _, _, _⟩) rfl _ _ rfl w.heap.size _ _ (ptextTo [sep] l k) [sep] rfl rfl (HO.alloc _) (bs_lit wr [sep] _ _ 1 (by simp) (by simp) _ rfl) (hB.alloc hbase _) (by (try simp); omega) (by (try simp); omega) ?_; intro v1 W1 ho1 hB1 hs1 _; replace e1 := (hB1.cell (p := ⟨b, o + k * 2, none⟩) hl0).trans E1.out; replace e2 := (hB1.cell (p := ⟨b, o + k * 2 + 1, none⟩) hl0).trans E2.out) | (at_builtin; refine append_bs (w0 := w) (o := ⟨_, .call { callee := .builtin .append, args := #[.tmp 19, .tmp 24], argTypes := _ }, _, _, _, _⟩) rfl _ _ rfl w.heap.size _ _ (ptextTo [sep] l k ++ [sep]) (kvAt l k).k rfl rfl ho1 (r1.grow hB1) hB1 hB1.size (by (try simp); omega) ?_; intro v2 W2 ho2 hB2 hs2 _; replace e1 := (hB2.cell (p := ⟨b, o + k * 2, none⟩) hl0).trans E1.out; replace e2 := (hB2.cell (p := ⟨b, o + k * 2 + 1, none⟩) hl0).trans E2.out))
     go_roundw
     case rel =>
      refine ⟨k + 1, by omega, by go_num, ?_, hB2⟩
      rw [hstep.out, if_pos hk0, kvText, if_neg (by have := HLV.out; omega)]
      simpa using ho2
     case measure => simp [intOf]; omega
   ·by_cases hv0 : 0 < lv
    ·go_wp2_with (first | (at_builtin; refine append_bs (w0 := w) (o := ⟨_, .call { callee := .builtin .append, args := #[.tmp 19, .tmp 24], argTypes := _ }, _, _, _, _⟩) rfl _ _ rfl w.heap.size _ _ (ptextTo [sep] l k) (kvAt l k).k rfl rfl HO (r1.grow hB) hB hB.size (by (try simp); omega) ?_; intro v2 W2 ho2 hB2 hs2 _; replace e1 := (hB2.cell (p := ⟨b, o + k * 2, none⟩) hl0).trans E1.out; replace e2 := (hB2.cell (p := ⟨b, o + k * 2 + 1, none⟩) hl0).trans E2.out))
     go_region_held3 (fun w' => w'.cell? ⟨b, o + k * 2 + 1, none⟩ = some (.slice A2 lv c2))
      (first
       | go_keep
       | exact (hB3.cell (p := ⟨b, o + k * 2 + 1, none⟩) hl0).trans E2.out
       | exact (hB4.cell (p := ⟨b, o + k * 2 + 1, none⟩) hl0).trans E2.out)
      (first
       | (refine step_append_bs (w0 := w) (o := ⟨_, .call { callee := .builtin .append, args := #[.tmp 33, .tmp 34], argTypes := _ }, _, _, _, _⟩) rfl _ _ rfl w.heap.size _ _ (ptextTo [sep] l k ++ (kvAt l k).k) [61] (by rfl) (by rfl) ((ho2.alloc _).drew) ((bs_lit W2 [61] _ _ 1 (by simp) (by simp) _ rfl).drew) ((hB2.alloc hB2.size _).drew) (by have := hB2.size; (try simp); omega) (by (try simp); omega) ?_; intro v3 W3 ho3 hB3 hs3 _)
       | (refine step_append_bs (w0 := w) (o := ⟨_, .call { callee := .builtin .append, args := #[.tmp 35, .tmp 40], argTypes := _ }, _, _, _, _⟩) rfl _ _ rfl w.heap.size _ _ (ptextTo [sep] l k ++ (kvAt l k).k ++ [61]) (kvAt l k).v (by rfl) (by rfl) ho3 (r2.grow hB3) hB3 hB3.size (by (try simp); omega) ?_; intro v4 W4 ho4 hB4 hs4 _))
     go_wp2
     go_roundw
     case rel =>
      refine ⟨k + 1, by omega, by go_num, ?_, hB4⟩
      rw [hstep.out, if_neg hk0, kvText, if_pos (by have := HLV.out; omega)]
      simpa using ho4
     case measure => simp [intOf]; omega
    ·go_wp2_with (first | (at_builtin; refine append_bs (w0 := w) (o := ⟨_, .call { callee := .builtin .append, args := #[.tmp 19, .tmp 24], argTypes := _ }, _, _, _, _⟩) rfl _ _ rfl w.heap.size _ _ (ptextTo [sep] l k) (kvAt l k).k rfl rfl HO (r1.grow hB) hB hB.size (by (try simp); omega) ?_; intro v2 W2 ho2 hB2 hs2 _; replace e1 := (hB2.cell (p := ⟨b, o + k * 2, none⟩) hl0).trans E1.out; replace e2 := (hB2.cell (p := ⟨b, o + k * 2 + 1, none⟩) hl0).trans E2.out))
     go_roundw
     case rel =>
      refine ⟨k + 1, by omega, by go_num, ?_, hB2⟩
      rw [hstep.out, if_neg hk0, kvText, if_neg (by have := HLV.out; omega)]
      simpa using ho2
     case measure => simp [intOf]; omega
  ·obtain rfl : k = l.length := by omega
   go_wp2
   go_ret
   exact ⟨_, rfl, HO, hB⟩
def BsL (w : World) (v : Value) (l : List By) : Prop :=
 ∃ A c, v = .slice A l.length c ∧ l.length ≤ c ∧ c ≤ 9223372036854775807 ∧ (0 < l.length → ∃ b o, A = some ⟨b, o, none⟩ ∧ b < w.heap.size ∧ ∀ i, i < l.length → ∃ x, w.cell? ⟨b, o + i, none⟩ = some x ∧ Bs w x (l.getD i []))
theorem flat_succ (l : List By) (k : Nat) (h : k < l.length) : (l.take (k + 1)).flatten = (l.take k).flatten ++ l.getD k [] := by
 rw [List.take_succ_eq_append_getElem h, getD_lt _ _ _ h, List.flatten_append, List.flatten_singleton]
theorem flat_len (l : List By) : ∀ k, (l.take k).flatten.length ≤ l.flatten.length := by
 intro k
 have : l.flatten = (l.take k).flatten ++ (l.drop k).flatten := by rw [← List.flatten_append, List.take_append_drop]
 rw [this]
 simp
theorem joined_c (v : Value) (l : List By) (w : World) (h : BsL w v l) (hsum : l.flatten.length ≤ 100000000000000) :
 Calls Tryz.prog 31 #[v] w fun e w' => ∃ r, e = .returned r ∧ Ow w.heap.size w' r l.flatten ∧ Below w.heap.size w w' := by
 obtain ⟨A, cp, rfl, h1, h2, h3⟩ := h
 have H3 := Lib.hid h3; clear h3
 go_enter func31, ntmps31
 go_wp2
 go_loopw [3, 4] (fun out i wr => ∃ k : Nat, k ≤ l.length ∧ i = .int .i64 k ∧ Ow w.heap.size wr out (l.take k).flatten ∧ Below w.heap.size w wr) (fun _ i _ => l.length - (intOf i).toNat)
 case atStart => exact ⟨0, Nat.zero_le _, rfl, ow_nil _ _, Below.refl _ _⟩
 case round =>
  obtain ⟨k, hk, rfl, HO, hB⟩ := hrel
  by_cases hlt : k < l.length
  ·obtain ⟨b, o, rfl, hl0, hc⟩ := H3.out (by omega)
   obtain ⟨x, e1, r1⟩ := hc k hlt
   clear hc
   have hlen := flat_len l (k + 1)
   have hfs := flat_succ l k hlt
   rw [hfs, List.length_append] at hlen
   have HFS := Lib.hid hfs; clear hfs
   replace e1 := (hB.cell (p := ⟨b, o + k, none⟩) hl0).trans e1
   obtain ⟨A1, c1, rfl⟩ := r1.shape
   obtain ⟨m, hm⟩ : ∃ m, m = l.getD k [] := ⟨_, rfl⟩
   rw [← hm] at e1 r1 hlen HFS
   have HM := Lib.hid hm; clear hm
   have hbase := hB.size
   go_wp2_with (at_builtin; refine append_bs (w0 := w) (o := ⟨_, .call { callee := .builtin .append, args := #[.tmp 11, .tmp 15], argTypes := _ }, _, _, _, _⟩) rfl _ _ rfl w.heap.size _ _ (l.take k).flatten m rfl rfl HO (r1.grow hB) hB hB.size (by omega) ?_; intro v2 W2 ho2 hB2 hs2 _)
   go_roundw
   case rel =>
    refine ⟨k + 1, by omega, by go_num, ?_, hB2⟩
    rw [HFS.out]
    exact ho2
   case measure => simp [intOf]; omega
  ·obtain rfl : k = l.length := by omega
   rw [List.take_length] at HO
   go_wp2
   go_ret
   exact ⟨_, rfl, HO, hB⟩
def decN (n : Nat) : By := if h : n < 10 then [UInt8.ofNat (48 + n)] else decN (n / 10) ++ [UInt8.ofNat (48 + n % 10)]
termination_by n
decreasing_by omega
def dec (n : Int) : By := if n < 0 then [UInt8.ofNat (48 + n.tmod 10).toNat] else decN n.toNat
theorem decN_len : ∀ k n, n < 10 ^ (k + 1) → (decN n).length ≤ k + 1 := by
 intro k
 induction k with
 | zero => intro n h; rw [decN, dif_pos (by simpa using h)]; simp
 | succ k ih =>
   intro n h
   rw [decN]
   split
   ·simp
   ·have := ih (n / 10) (by rw [Nat.div_lt_iff_lt_mul (by omega)]; rw [Nat.pow_succ] at h; exact h)
    simp only [List.length_append, List.length_singleton]
    omega
theorem dec_len (n : Int) (h : n ≤ 9223372036854775807) : (dec n).length ≤ 19 := by
 unfold dec
 split
 ·simp
 ·exact decN_len 18 _ (by rw [show 10 ^ (18 + 1) = 10000000000000000000 from rfl]; omega)
theorem tdiv_nat (n : Nat) : ((n : Int)).tdiv 10 = ((n / 10 : Nat) : Int) := rfl
theorem tmod_nat (n : Nat) : ((n : Int)).tmod 10 = ((n % 10 : Nat) : Int) := rfl
theorem dec_step (x : Int) : dec x = (if 0 < x.tdiv 10 then dec (x.tdiv 10) else []) ++ [UInt8.ofNat (48 + x.tmod 10).toNat] := by
 rcases Int.lt_or_le x 0 with h | h
 ·obtain ⟨m, rfl⟩ : ∃ m : Nat, x = -(m : Int) := ⟨x.natAbs, by omega⟩
  rw [if_neg (by rw [Int.neg_tdiv, tdiv_nat]; omega)]
  simp only [dec, if_pos h, List.nil_append]
 ·obtain ⟨n, rfl⟩ := Int.eq_ofNat_of_zero_le h
  rw [tdiv_nat, tmod_nat]
  unfold dec
  rw [if_neg (show ¬ (n : Int) < 0 by omega), if_neg (show ¬ ((n / 10 : Nat) : Int) < 0 by omega)]
  simp only [Int.toNat_natCast]
  rw [show ((48 : Int) + ((n % 10 : Nat) : Int)).toNat = 48 + n % 10 by omega]
  by_cases h10 : n < 10
  ·rw [decN, dif_pos h10, if_neg (by omega), Nat.mod_eq_of_lt h10]; rfl
  ·rw [decN, dif_neg h10, if_pos (by omega)]
theorem tdiv_lo (x : Int) (h : x < 0) : x ≤ x.tdiv 10 ∧ x.tdiv 10 ≤ 0 ∧ -9 ≤ x.tmod 10 ∧ x.tmod 10 ≤ 0 := by
 obtain ⟨m, rfl⟩ : ∃ m : Nat, x = -(m : Int) := ⟨x.natAbs, by omega⟩
 rw [Int.neg_tdiv, tdiv_nat, Int.neg_tmod, tmod_nat]
 omega
theorem tdiv_hi (x : Int) (h : 0 ≤ x) : 0 ≤ x.tdiv 10 ∧ x.tdiv 10 ≤ x ∧ (0 < x → x.tdiv 10 < x) ∧ 0 ≤ x.tmod 10 ∧ x.tmod 10 ≤ 9 := by
 obtain ⟨n, rfl⟩ := Int.eq_ofNat_of_zero_le h
 rw [tdiv_nat, tmod_nat]
 omega
def decInv (n : Int) (fl : Bool) (x : Int) (suf : By) : Prop := dec n = (if fl = true ∨ 0 < x then dec x else []) ++ suf
theorem decimal_c (n : Int) (w : World) (hlo : -9223372036854775808 ≤ n) (hhi : n ≤ 9223372036854775807) :
 Calls Tryz.prog 32 #[.int .i64 n] w fun e w' => ∃ r, e = .returned r ∧ Ow w.heap.size w' r (dec n) ∧ Below w.heap.size w w' := by
 have hdl := dec_len n hhi
 go_enter func32, ntmps32
 go_wp2
 go_loopw [0, 3, 4] (fun i out f wr => ∃ (x : Int) (fl : Bool) (suf : By), i = .int .i64 x ∧ f = .bool fl ∧ decInv n fl x suf ∧ -9223372036854775808 ≤ x ∧ x ≤ 9223372036854775807 ∧ Ow w.heap.size wr out suf ∧ Below w.heap.size w wr) (fun i _ f _ => (match f with | .bool true => 1 | _ => 0) + (intOf i).toNat)
 case atStart => exact ⟨n, true, [], rfl, rfl, by simp [decInv], hlo, hhi, ow_nil _ _, Below.refl _ _⟩
 case round =>
  obtain ⟨x, fl, suf, rfl, rfl, hI, hx1, hx2, HO, hB⟩ := hrel
  have hsl : suf.length ≤ 19 := by have := congrArg List.length hI; rw [List.length_append] at this; omega
  have hbase := hB.size
  have HI := Lib.hid hI; clear hI
  obtain ⟨q, hq⟩ : ∃ q, q = x.tdiv 10 := ⟨_, rfl⟩
  obtain ⟨r, hr⟩ : ∃ r, r = x.tmod 10 := ⟨_, rfl⟩
  have hb : -9 ≤ r ∧ r ≤ 9 ∧ -9223372036854775808 ≤ q ∧ q ≤ 9223372036854775807 ∧ (0 < x → 0 ≤ q ∧ q < x) ∧ (x ≤ 0 → q ≤ 0) := by
   rcases Int.lt_or_le x 0 with h | h
   ·have := tdiv_lo x h; omega
   ·have := tdiv_hi x h; omega
  obtain ⟨hb1, hb2, hb3, hb4, hb5, hb6⟩ := hb
  by_cases hgo : fl = true ∨ 0 < x
  ·have hst := dec_step x
   have hI2 : decInv n false q ([UInt8.ofNat (48 + r).toNat] ++ suf) := by
    have := HI.out
    rw [decInv, if_pos hgo, hst] at this
    rw [decInv, this, hq, hr]
    simp
   have HI2 := Lib.hid hI2; clear hI2 hst
   have HC : bcells [UInt8.ofNat (48 + r).toNat] = #[.int .u8 (48 + r)] := by
    simp [bcells]
    omega
   have HC := Lib.hid HC
   cases fl
   ·have hx0 : 0 < x := by simpa using hgo
    clear hgo
    go_wp2_with (at_builtin; refine append_bs (w0 := w) (o := ⟨_, .call { callee := .builtin .append, args := #[.tmp 14, .tmp 15], argTypes := _ }, _, _, _, _⟩) rfl _ _ rfl w.heap.size _ _ [UInt8.ofNat (48 + r).toNat] suf rfl rfl (ow_lit _ _ _ hB.size (by simp) _ (by rw [HC.out, hr, Int.tmod_eq_emod_of_nonneg (by omega)])) (HO.bs.alloc _) (hB.alloc hB.size _) (by simp; omega) (by simp; omega) ?_; intro v2 W2 ho2 hB2 hs2 _)
    go_roundw
    case rel => exact ⟨q, false, _, by rw [hq, Int.tdiv_eq_ediv_of_nonneg (by omega)], rfl, HI2.out, by omega, by omega, ho2, hB2⟩
    case measure => simp [intOf]; omega
   ·clear hgo
    go_wp2_with (at_builtin; refine append_bs (w0 := w) (o := ⟨_, .call { callee := .builtin .append, args := #[.tmp 14, .tmp 15], argTypes := _ }, _, _, _, _⟩) rfl _ _ rfl w.heap.size _ _ [UInt8.ofNat (48 + r).toNat] suf rfl rfl (ow_lit _ _ _ hB.size (by simp) _ (by rw [HC.out, hr])) (HO.bs.alloc _) (hB.alloc hB.size _) (by simp; omega) (by simp; omega) ?_; intro v2 W2 ho2 hB2 hs2 _)
    go_roundw
    case rel => exact ⟨q, false, _, by rw [hq], rfl, HI2.out, by omega, by omega, ho2, hB2⟩
    case measure => simp [intOf]; omega
  ·have hI2 := HI.out
   rw [decInv, if_neg hgo, List.nil_append] at hI2
   have HI2 := Lib.hid hI2; clear hI2
   obtain ⟨hf, hx0⟩ : fl = false ∧ ¬ 0 < x := by simpa using hgo
   subst hf
   clear hgo
   go_wp2
   go_ret
   exact ⟨_, rfl, HI2.out ▸ HO, hB⟩
theorem bsl_lit (w : World) (C : Array Value) (L : List By) (T : TypeId) (fr : Nat × Nat) (hs : L.length ≤ 9223372036854775807)
 (h : ∀ i, i < L.length → ∃ x, C[i]? = some x ∧ Bs w x (L.getD i [])) :
 BsL (w.alloc (.cells C T fr)) (.slice (some ⟨w.heap.size, 0, none⟩) L.length L.length) L := by
 refine ⟨_, _, rfl, Nat.le_refl _, hs, fun _ => ⟨w.heap.size, 0, rfl, by simp, fun i hi => ?_⟩⟩
 obtain ⟨x, h1, h2⟩ := h i hi
 refine ⟨x, ?_, h2.alloc _⟩
 rw [cell_of_row _ _ _ _ T fr (heap_alloc_new w _), Nat.zero_add]
 exact h1
theorem bsl2 (w : World) (a b : Value) (la lb : By) (T : TypeId) (fr : Nat × Nat) (ha : Bs w a la) (hb : Bs w b lb) :
 BsL (w.alloc (.cells #[a, b] T fr)) (.slice (some ⟨w.heap.size, 0, none⟩) 2 2) [la, lb] := by
 refine bsl_lit w #[a, b] [la, lb] T fr (by simp) fun i hi => ?_
 match i, hi with
 | 0, _ => exact ⟨a, rfl, ha⟩
 | 1, _ => exact ⟨b, rfl, hb⟩
theorem bsl3 (w : World) (a b c : Value) (la lb lc : By) (T : TypeId) (fr : Nat × Nat) (ha : Bs w a la) (hb : Bs w b lb) (hc : Bs w c lc) :
 BsL (w.alloc (.cells #[a, b, c] T fr)) (.slice (some ⟨w.heap.size, 0, none⟩) 3 3) [la, lb, lc] := by
 refine bsl_lit w #[a, b, c] [la, lb, lc] T fr (by simp) fun i hi => ?_
 match i, hi with
 | 0, _ => exact ⟨a, rfl, ha⟩
 | 1, _ => exact ⟨b, rfl, hb⟩
 | 2, _ => exact ⟨c, rfl, hc⟩
theorem bs_lit' (w : World) (l : By) (e : TypeId) (fr : Nat × Nat) (c k : Nat) (hk : k = w.heap.size) (hc : l.length ≤ c) (hm : c ≤ 9223372036854775807) (C : Array Value) (hC : C = bcells l) :
 Bs (w.alloc (.cells C e fr)) (.slice (some ⟨k, 0, none⟩) l.length c) l := by subst hk; exact bs_lit w l e fr c hc hm C hC
theorem bsl2' (w : World) (a b : Value) (la lb : By) (T : TypeId) (fr : Nat × Nat) (k : Nat) (hk : k = w.heap.size) (ha : Bs w a la) (hb : Bs w b lb) :
 BsL (w.alloc (.cells #[a, b] T fr)) (.slice (some ⟨k, 0, none⟩) 2 2) [la, lb] := by subst hk; exact bsl2 w a b la lb T fr ha hb
theorem bsl3' (w : World) (a b c : Value) (la lb lc : By) (T : TypeId) (fr : Nat × Nat) (k : Nat) (hk : k = w.heap.size) (ha : Bs w a la) (hb : Bs w b lb) (hc : Bs w c lc) :
 BsL (w.alloc (.cells #[a, b, c] T fr)) (.slice (some ⟨k, 0, none⟩) 3 3) [la, lb, lc] := by subst hk; exact bsl3 w a b c la lb lc T fr ha hb hc
def hostTextL (h : By) (p : Int) : By := if p = 0 then h else h ++ [58] ++ dec p
theorem hostText_len (h : By) (p : Int) (hp : p ≤ 9223372036854775807) : (hostTextL h p).length ≤ h.length + 20 := by
 have := dec_len p hp
 unfold hostTextL
 split
 ·omega
 ·simp; omega
theorem hostText_c (v : Value) (l : By) (p : Int) (w : World) (h : Bs w v l) (hl : l.length ≤ 10000000000000) (hlo : -9223372036854775808 ≤ p) (hhi : p ≤ 9223372036854775807) :
 Calls Tryz.prog 64 #[v, .int .i64 p] w fun e w' => ∃ r, e = .returned r ∧ Bs w' r (hostTextL l p) ∧ Below w.heap.size w w' := by
 have hB := h
 obtain ⟨A, c, rfl, h1, h2⟩ := hB.at
 have HB := Lib.hid hB; clear hB h
 by_cases hp : p = 0
 ·subst hp
  go_enter func64, ntmps64
  go_wp2
  go_ret
  exact ⟨_, rfl, HB.out, Below.refl _ _⟩
 ·have hdl := dec_len p hhi
  have b0 : (p == 0) = false := beq_eq_false_iff_ne.2 hp
  have HP := Lib.hid hp; clear hp
  go_enter func64, ntmps64
  go_wp2_with fail
  refine (decimal_c p _ hlo hhi).mono ?_
  rintro e w1 ⟨r, rfl, hr, hb1⟩
  obtain ⟨A1, c1, rfl⟩ := hr.one
  have hs1 := hb1.size
  simp at hs1
  go_wp2_with fail
  refine (joined_c _ [l, [58], dec p] _ (bsl3 _ _ _ _ _ _ _ _ _ (((HB.out.alloc _).grow hb1)) ((bs_lit w [58] _ _ 1 (by simp) (by simp) _ rfl).grow hb1) hr.bs) (by simp; omega)).mono ?_
  rintro e w2 ⟨r2, rfl, hr2, hb2⟩
  obtain ⟨A2, c2, rfl⟩ := hr2.one
  go_wp2_with fail
  go_ret
  refine ⟨_, rfl, ?_, ?_⟩
  ·rw [hostTextL, if_neg HP.out]
   simpa using hr2.bs
  ·exact below_then ((below_alloc w _).trans (hb1.mono (by simp))) (by omega) ((below_alloc w1 _).trans (hb2.mono (by simp)))
end Go.Proofs.YtfcllhdhfenmcaaGreatDoor
