/- Part 16 of the proof: laws and walks (merged by a program). -/
import Derived.Test.YtfcllhdhfenmcaaGreatDoorK01
import Derived.Test.YtfcllhdhfenmcaaGreatDoorK09
import Derived.Test.YtfcllhdhfenmcaaGreatDoorK15
set_option linter.all false
set_option maxHeartbeats 8000000
set_option maxRecDepth 100000
namespace Go.Proofs.YtfcllhdhfenmcaaGreatDoor
open Go.RowKit Go.Proofs.Tryz
def firstSort (t : Nat) : Bool := decide (t = 9 ∨ t = 11 ∨ t = 12)
def refN (L : List SH) (t : Nat) : Nat → Option Nat
 | 0 => none
 | k + 1 => if (L.getD k default).t = t then (if firstSort t = true ∧ (refN L t k).isSome = true then refN L t k else some k) else refN L t k
def refT (L : List SH) (t : Nat) : Option Nat := refN L t L.length
theorem refN_append (L M : List SH) (t : Nat) : ∀ k, k ≤ L.length → refN (L ++ M) t k = refN L t k := by
 intro k
 induction k with
 | zero => intro _; rfl
 | succ k ih =>
   intro hk
   have hg : (L ++ M).getD k default = L.getD k default := by
    simp only [List.getD]
    rw [List.getElem?_append_left (by omega)]
   simp only [refN, ih (by omega), hg]
theorem refT_snoc (L : List SH) (x : SH) (t : Nat) : refT (L ++ [x]) t = if x.t = t then (if firstSort t = true ∧ (refT L t).isSome = true then refT L t else some L.length) else refT L t := by
 unfold refT
 rw [List.length_append, List.length_singleton, refN]
 have hg : (L ++ [x]).getD L.length default = x := by simp [List.getD]
 rw [hg, refN_append L [x] t L.length (Nat.le_refl _)]
theorem refN_lt (L : List SH) (t : Nat) : ∀ k i, refN L t k = some i → i < k ∧ (L.getD i default).t = t := by
 intro k
 induction k with
 | zero => intro i h; simp [refN] at h
 | succ k ih =>
   intro i h
   simp only [refN] at h
   split at h
   ·split at h
    ·have := ih i h; exact ⟨by omega, this.2⟩
    ·rename_i h1 _
     have : k = i := by simpa using h
     subst this
     exact ⟨by omega, h1⟩
   ·have := ih i h; exact ⟨by omega, this.2⟩
theorem refT_lt {L : List SH} {t i : Nat} (h : refT L t = some i) : i < L.length ∧ (L.getD i default).t = t := refN_lt L t _ i h
theorem refN_none (L : List SH) (t : Nat) : ∀ k, refN L t k = none → ∀ i, i < k → (L.getD i default).t ≠ t := by
 intro k
 induction k with
 | zero => intro _ i hi; omega
 | succ k ih =>
   intro h i hi
   simp only [refN] at h
   split at h
   ·split at h
    ·rename_i h2
     rw [h] at h2
     simp at h2
    ·simp at h
   ·rename_i h1
    by_cases hik : i = k
    ·subst hik; exact h1
    ·exact ih h i (by omega)
theorem refT_none {L : List SH} {t : Nat} (h : refT L t = none) (i : Nat) (hi : i < L.length) : (L.getD i default).t ≠ t := refN_none L t _ h i hi
def ptrOf (v : Value) : Value := match v with | .iface _ p => p | _ => .pointer none
def refV (vals : List Value) (o : Option Nat) : Value := match o with | none => .pointer none | some i => ptrOf (vals.getD i .nilIface)
def refSorts : List Nat := [9, 2, 1, 4, 3, 5, 8, 10, 11, 12, 6]
def hsCells (ov : Value) (vals : List Value) (L : List SH) (compact : Bool) : List Value :=
 [ov, refV vals (refT L 9), refV vals (refT L 2), refV vals (refT L 1), refV vals (refT L 4), refV vals (refT L 3), refV vals (refT L 5), refV vals (refT L 8), refV vals (refT L 10), refV vals (refT L 11), refV vals (refT L 12), refV vals (refT L 6), .bool compact]
structure Ord (base : Nat) (w : World) (ov : Value) (vals : List Value) (L : List SH) : Prop where
 row : w.ownsRow base 81 1 ov vals.length vals
 len : vals.length = L.length
 obj : ∀ i, i < L.length → HObj w (vals.getD i .nilIface) (L.getD i default)
def nil10 : Array Value := #[.nilIface, .nilIface, .nilIface, .nilIface, .nilIface, .nilIface, .nilIface, .nilIface, .nilIface, .nilIface]
def v20S : ByteArray := ⟨#[83, 73, 80, 47, 50, 46, 48]⟩
def bare13 (bo : Nat) : List Value := [.slice (some ⟨bo, 0, none⟩) 0 10, .pointer none, .pointer none, .pointer none, .pointer none, .pointer none, .pointer none, .pointer none, .pointer none, .pointer none, .pointer none, .pointer none, .bool false]
theorem newResponse_c (code : Int) (reason : ByteArray) (w : World) :
 Calls Tryz.prog 56 #[.int .i64 code, .string reason] w fun e w' => ∃ b bo, e = .returned (.pointer (some ⟨b, 0, none⟩)) ∧
  Blk w' b (bare13 bo ++ ([.string v20S, .slice none 0 0, .string ⟨#[]⟩, .string ⟨#[]⟩, .string ⟨#[]⟩, .string reason, .int .i64 code] : List Value)).toArray 106 ∧ Blk w' bo nil10 81 ∧ w.heap.size ≤ b ∧ w.heap.size ≤ bo ∧ b < w'.heap.size ∧ Below w.heap.size w w' := by
 have hS0 := Below.refl w.heap.size w
 have hz0 := hS0.size
 go_enter func56, ntmps56
 go_upto_region 0 with fail
 refine pS [_] ?_
 go_upto_region 1 with fail
 refine pR [.agg #[.slice none 0 0, .pointer none, .pointer none, .pointer none, .pointer none, .pointer none, .pointer none, .pointer none, .pointer none, .pointer none, .pointer none, .pointer none, .bool false, .string ⟨#[]⟩, .slice none 0 0, .string ⟨#[]⟩, .string ⟨#[]⟩, .string ⟨#[]⟩, .string ⟨#[]⟩, .int .i64 0]] ?_
 refine cN #[.slice none 0 0, .pointer none, .pointer none, .pointer none, .pointer none, .pointer none, .pointer none, .pointer none, .pointer none, .pointer none, .pointer none, .pointer none, .bool false, .string ⟨#[]⟩, .slice none 0 0, .string ⟨#[]⟩, .string ⟨#[]⟩, .string ⟨#[]⟩, .string ⟨#[]⟩, .int .i64 0] 106 ?_
 intro b w1 b_ge b_lt hT hb1
 obtain ⟨hS1, hz1, hy1⟩ := zC hS0 hb1
 refine wP ?_
 refine pQ [_] ?_
 go_upto_region 2 with fail
 refine pR [_, .pointer (some ⟨b, 0, none⟩), .pointer (some ⟨b, 0, none⟩), .pointer (some ⟨b, 13, none⟩)] ?_
 refine cB 9 b 13 [.string ⟨#[83, 73, 80, 47, 50, 46, 48]⟩] 106 hT ?_
 intro w2 hT' hO2
 have hS2 := hS1.trans (hO2.below (by omega))
 have hz2 := hS2.size
 clear hT
 have hT := hT'
 clear hT'
 have hzz2 := hO2.size
 replace hO2 := Lib.hid hO2
 refine wN ?_
 go_upto_region 3 with fail
 refine pR [_] ?_
 refine Wl.step (fun K hK => ?_)
 refine step_new rfl (fun b => .slice (some ⟨b, 0, none⟩) 0 10) (#[.nilIface, .nilIface, .nilIface, .nilIface, .nilIface, .nilIface, .nilIface, .nilIface, .nilIface, .nilIface]) 81 (by kernel_rfl) ?_
 intro bo w3 bo_ge bo_lt hO hb3
 obtain ⟨hS3, hz3, hy3⟩ := zC hS2 hb3
 replace hT := hT.grow hb3
 refine hK _ _ ?_
 clear hK K
 (try simp only [Act.put, zD, zE, zF])
 refine pP [.agg #[.slice (some ⟨bo, 0, none⟩) 0 10, .pointer none, .pointer none, .pointer none, .pointer none, .pointer none, .pointer none, .pointer none, .pointer none, .pointer none, .pointer none, .pointer none, .bool false], .pointer (some ⟨b, 0, none⟩), .pointer (some ⟨b, 0, none⟩), .pointer (some ⟨b, 0, none⟩)] ?_
 refine cB 102 b 0 [.slice (some ⟨bo, 0, none⟩) 0 10, .pointer none, .pointer none, .pointer none, .pointer none, .pointer none, .pointer none, .pointer none, .pointer none, .pointer none, .pointer none, .pointer none, .bool false] 106 hT ?_
 intro w4 hT' hO4
 replace hO := hO.oth hO4 (by omega)
 have hS4 := hS3.trans (hO4.below (by omega))
 have hz4 := hS4.size
 clear hT
 have hT := hT'
 clear hT'
 have hzz4 := hO4.size
 replace hO4 := Lib.hid hO4
 refine wN ?_
 go_upto_region 4 with fail
 refine pR [_, _, .pointer (some ⟨b, 0, none⟩), .pointer (some ⟨b, 19, none⟩)] ?_
 refine cB 3 b 19 [.int .i64 code] 106 hT ?_
 intro w5 hT' hO5
 replace hO := hO.oth hO5 (by omega)
 have hS5 := hS4.trans (hO5.below (by omega))
 have hz5 := hS5.size
 clear hT
 have hT := hT'
 clear hT'
 have hzz5 := hO5.size
 replace hO5 := Lib.hid hO5
 refine wN ?_
 go_upto_region 5 with fail
 refine pR [_, _, .pointer (some ⟨b, 0, none⟩), .pointer (some ⟨b, 18, none⟩)] ?_
 refine cB 9 b 18 [.string reason] 106 hT ?_
 intro w6 hT' hO6
 replace hO := hO.oth hO6 (by omega)
 have hS6 := hS5.trans (hO6.below (by omega))
 have hz6 := hS6.size
 clear hT
 have hT := hT'
 clear hT'
 have hzz6 := hO6.size
 replace hO6 := Lib.hid hO6
 refine wN ?_
 go_upto_region 6 with fail
 refine pR [_, .pointer (some ⟨b, 0, none⟩), .pointer (some ⟨b, 0, none⟩), .pointer (some ⟨b, 14, none⟩)] ?_
 refine cB 22 b 14 [.slice none 0 0] 106 hT ?_
 intro w7 hT' hO7
 replace hO := hO.oth hO7 (by omega)
 have hS7 := hS6.trans (hO7.below (by omega))
 have hz7 := hS7.size
 clear hT
 have hT := hT'
 clear hT'
 have hzz7 := hO7.size
 replace hO7 := Lib.hid hO7
 refine wN ?_
 go_upto_region 7 with fail
 refine pS [_, _] ?_
 go_wp2
 go_ret
 exact ⟨b, bo, rfl, hT, hO, by omega, by omega, hT.lt, hS7⟩
theorem HPs.row {w : World} {A : Option Addr} {n c : Nat} {l : List PV} (h : HPs w (.slice A n c) l) (hA : A ≠ none) : ∃ ad, A = some ad ∧ n = l.length ∧ ∀ j u, (pvals l)[j]? = some u → w.cell? (ad.add j) = some u := by
 obtain ⟨A', c', e, h1, h2, h3⟩ := h
 injection e with e1 e2 e3
 subst e1; subst e2; subst e3
 obtain ⟨ad, rfl⟩ := Option.ne_none_iff_exists'.1 hA
 refine ⟨ad, rfl, rfl, fun j u hu => ?_⟩
 have hj : j < l.length * 2 := by
  have := (List.getElem?_eq_some_iff.1 hu).1
  rwa [pvals_length] at this
 obtain ⟨b, o, C, fr, e, hh, hc⟩ := h3 (by omega)
 injection e with e
 subst e
 rw [add_none, cell_of_row _ _ _ C _ fr hh]
 obtain ⟨q1, q2⟩ := pvals_get l (j / 2) (by omega)
 obtain ⟨c1, c2⟩ := hc (j / 2) (by omega)
 rcases Nat.mod_two_eq_zero_or_one j with hm | hm
 ·rw [show j / 2 * 2 = j by omega] at q1 c1
  rw [q1] at hu
  rw [c1]
  exact hu
 ·rw [show j / 2 * 2 + 1 = j by omega] at q2
  rw [show o + j / 2 * 2 + 1 = o + j by omega] at c2
  rw [q2] at hu
  rw [c2]
  exact hu
theorem pvals_one (l : List PV) : ∀ u ∈ pvals l, u.oneCell' = true := by
 intro u hu
 simp only [pvals, List.mem_flatMap] at hu
 obtain ⟨x, _, hx⟩ := hu
 simp only [List.mem_cons, List.not_mem_nil, or_false] at hx
 rcases hx with rfl | rfl <;> rfl
theorem step_append_pvs {ops : Array Oper} {o : Oper} {a : Act} {W : World} {K : Act → World → Prop} {Q : Exit → Act → World → Prop} {E : Prop} (hgd : o.guard = none) (s x : Operand)
 (ho : o.op = .call { callee := .builtin .append, args := #[s, x], argTypes := #[72, 72] })
 (base : Nat) (v : Value) (l m : List PV) (hs : a.eval s = v) (A : Option Addr) (n c : Nat) (hx : a.eval x = .slice A n c) (hA : A ≠ none) (hy : HPs W (.slice A n c) m)
 (HO : Pw base W v l) (hbase : base ≤ W.heap.size) (hlen : l.length + m.length ≤ 4000000000000)
 (h : ∀ v1 W1, Pw base W1 v1 (l ++ m) → Below base W W1 → K (a.put o.dst v1) W1) : if Region.wanted o (yielded ops a.tmps) = true then Oper.wp Tryz.prog o a W K Q else E := by
 have hw : Region.wanted o (yielded ops a.tmps) = true := by simp [Region.wanted, hgd]
 rw [if_pos hw]
 obtain ⟨i0, hi, hzz⟩ := Option.map_eq_some_iff.1 infoPV
 simp only [Prod.mk.injEq] at hzz
 obtain ⟨hz0, hz1, hz2⟩ := hzz
 obtain ⟨ad, rfl, rfl, hc⟩ := hy.row hA
 have HO' := HO
 refine wp_append_own W s x 72 ho base 145 i0 _ 2 32 underlying72 hi hz0 hz1 hz2 rfl (by decide) v l.length (pvals l) hs HO ad m.length c (pvals m) hx (pvals_length m) hc (pvals_one m) (by unfold maxLen; omega) (by omega) hbase ?_
 intro v1 W1 hown hg _
 refine h v1 W1 ?_ ((Below.refl base W).grown hg hbase fun k hk => HO'.base_le k hk)
 unfold Pw
 rw [List.length_append, pvals_append]
 exact hown
theorem pw_empty {w : World} {b base : Nat} (h : Blk w b #[] 145) (hb : base ≤ b) : Pw base w (.slice (some ⟨b, 0, none⟩) 0 0) [] := ⟨rfl, .inr ⟨b, 0, #[], rfl, hb, h, Nat.le_refl _, Nat.zero_le _, rfl, rfl⟩⟩
theorem sclone_c (v : Value) (l : List PV) (w : World) (h : HPs w v l) (hl : l.length ≤ 4000000000000) :
 Calls Tryz.prog 82 #[v] w fun e w' => ∃ r, e = .returned r ∧ HPs w' r l ∧ Below w.heap.size w w' := by
 obtain ⟨A, c, rfl⟩ := h.shape
 have hS0 := Below.refl w.heap.size w
 have hz0 := hS0.size
 have qT : ∀ (w : World) (a : Option Addr) (n c n' c' : Nat), (binOp .eql 72 (.slice a n c) (.slice none n' c')).run Tryz.prog w = .ok (.bool a.isNone) w := fun w a n c n' c' => Lib.run_eql_slice_nil w _ _ a n c n' c' underlying72
 cases A with
 | none =>
   have hl0 : l = [] := by
    obtain ⟨A', c', e, _, _, h3⟩ := h
    injection e with e1 e2 e3
    rcases Nat.eq_zero_or_pos l.length with h0 | h0
    ·exact List.eq_nil_of_length_eq_zero h0
    ·obtain ⟨_, _, _, _, e4, _⟩ := h3 h0
     rw [← e1] at e4
     cases e4
   subst hl0
   go_enter func82, ntmps82
   go_wp2
   go_ret
   exact ⟨_, rfl, hps_nil _, Below.refl _ _⟩
 | some ad =>
   obtain ⟨n, hn⟩ : ∃ n, n = l.length := ⟨_, rfl⟩
   rw [← hn] at h
   have HN := Lib.hid hn
   rw [← hn]
   clear hn
   go_enter func82, ntmps82
   go_upto_region 3 with fail
   go_upto_region 3 with fail
   apply wR
   refine Wl.step (fun K hK => ?_)
   refine step_new rfl (fun b => .slice (some ⟨b, 0, none⟩) 0 0) (#[]) 145 (by kernel_rfl) ?_
   intro b5 w1 b5_ge b5_lt hT hb1
   obtain ⟨hS1, hz1, hy1⟩ := zC hS0 hb1
   replace h := h.grow hb1
   refine hK _ _ ?_
   clear hK K
   (try simp only [Act.put, zD, zE, zF])
   refine pP [_] ?_
   refine Wl.step (fun K hK => ?_)
   refine step_append_pvs rfl _ _ rfl b5 (.slice (some ⟨b5, 0, none⟩) 0 0) [] l (by kernel_rfl) (some ad) n c (by kernel_rfl) (by simp) h (pw_empty hT (Nat.le_refl _)) (Nat.le_of_lt b5_lt) (by simpa using hl) ?_
   intro v7 w2 hp7 hb2
   have hS2 := hS1.trans (hb2.mono (by omega))
   refine hK _ _ ?_
   clear hK K
   (try simp only [Act.put, zD, zE, zF])
   refine pQ [_] ?_
   go_wp2
   go_ret
   exact ⟨_, rfl, hp7.hps, hS2⟩
theorem clone_c (v : Value) (l : List PV) (w : World) (h : HPs w v l) (hl : l.length ≤ 4000000000000) :
 Calls Tryz.prog 74 #[v] w fun e w' => ∃ r, e = .returned r ∧ HPs w' r l ∧ Below w.heap.size w w' := by
 obtain ⟨A, c, rfl⟩ := h.shape
 go_enter func74, ntmps74
 go_wp2_with fail
 refine (sclone_c _ l _ h hl).mono ?_
 rintro e w1 ⟨r, rfl, hr, hb⟩
 go_wp2_with fail
 go_ret
 exact ⟨_, rfl, hr, hb⟩
theorem newRequest_c (m : ByteArray) (cs : Array Value) (u : SU) (w : World) (h : SUR w cs u) (hl : u.ps.length ≤ 4000000000000 ∧ u.hs.length ≤ 4000000000000) :
 Calls Tryz.prog 57 #[.string m, .agg cs] w fun e w' => ∃ b bo cs', e = .returned (.pointer (some ⟨b, 0, none⟩)) ∧ SUR w' cs' u ∧
  Blk w' b (bare13 bo ++ ([.string v20S, .slice none 0 0, .string ⟨#[]⟩, .string ⟨#[]⟩, .string ⟨#[]⟩, .string m] : List Value) ++ cs'.toList).toArray 111 ∧ Blk w' bo nil10 81 ∧ w.heap.size ≤ b ∧ w.heap.size ≤ bo ∧ b < w'.heap.size ∧ Below w.heap.size w w' := by
 have HLO := Lib.hid h.portLo
 have HHI := Lib.hid h.portHi
 obtain ⟨A8, n8, A9, n9, rfl, q8, q9⟩ := h.lit
 clear h
 obtain ⟨l8, l9⟩ := hl
 obtain ⟨k8, hk8⟩ : ∃ n, n = u.ps.length := ⟨_, rfl⟩
 obtain ⟨k9, hk9⟩ : ∃ n, n = u.hs.length := ⟨_, rfl⟩
 rw [← hk8] at q8 l8
 rw [← hk9] at q9 l9
 rw [← hk8, ← hk9]
 have HK8 := Lib.hid hk8
 have HK9 := Lib.hid hk9
 clear hk8 hk9
 have hS0 := Below.refl w.heap.size w
 have hz0 := hS0.size
 rcases A8 with _ | a8 <;> rcases A9 with _ | a9
 ·go_enter func57, ntmps57
  go_upto_region 0 with fail
  apply wR
  refine cN #[.string u.scheme, .string u.raw, .bool u.star, .bool u.slashes, .string u.user, .string u.pass, .string u.host, .int .i64 u.port, .slice none k8 n8, .slice none k9 n9] 74 ?_
  intro bu w1 bu_ge bu_lt hU hb1
  obtain ⟨hS1, hz1, hy1⟩ := zC hS0 hb1
  replace q8 := q8.grow hb1
  replace q9 := q9.grow hb1
  refine wP ?_
  refine pQ [_] ?_
  go_upto_region 1 with fail
  refine pR [.pointer (some ⟨bu, 8, none⟩)] ?_
  refine Wl.ld (hU.cell 8 (.slice none k8 n8) (by kernel_rfl)) underlying72 ?_
  refine pQ [.bool false] ?_
  go_upto_region 3 with fail
  refine pR [.pointer (some ⟨bu, 9, none⟩)] ?_
  refine Wl.ld (hU.cell 9 (.slice none k9 n9) (by kernel_rfl)) underlying72 ?_
  refine pQ [.bool false] ?_
  go_upto_region 5 with fail
  refine pR [.agg #[.slice none 0 0, .pointer none, .pointer none, .pointer none, .pointer none, .pointer none, .pointer none, .pointer none, .pointer none, .pointer none, .pointer none, .pointer none, .bool false, .string ⟨#[]⟩, .slice none 0 0, .string ⟨#[]⟩, .string ⟨#[]⟩, .string ⟨#[]⟩, .string ⟨#[]⟩, .string ⟨#[]⟩, .string ⟨#[]⟩, .bool false, .bool false, .string ⟨#[]⟩, .string ⟨#[]⟩, .string ⟨#[]⟩, .int .i64 0, .slice none 0 0, .slice none 0 0]] ?_
  refine cN #[.slice none 0 0, .pointer none, .pointer none, .pointer none, .pointer none, .pointer none, .pointer none, .pointer none, .pointer none, .pointer none, .pointer none, .pointer none, .bool false, .string ⟨#[]⟩, .slice none 0 0, .string ⟨#[]⟩, .string ⟨#[]⟩, .string ⟨#[]⟩, .string ⟨#[]⟩, .string ⟨#[]⟩, .string ⟨#[]⟩, .bool false, .bool false, .string ⟨#[]⟩, .string ⟨#[]⟩, .string ⟨#[]⟩, .int .i64 0, .slice none 0 0, .slice none 0 0] 111 ?_
  intro b w2 b_ge b_lt hT hb2
  obtain ⟨hS2, hz2, hy2⟩ := zC hS1 hb2
  replace q8 := q8.grow hb2
  replace q9 := q9.grow hb2
  replace hU := hU.grow hb2
  refine wP ?_
  refine pQ [_] ?_
  go_upto_region 6 with fail
  refine pR [_, .pointer (some ⟨b, 0, none⟩), .pointer (some ⟨b, 0, none⟩), .pointer (some ⟨b, 13, none⟩)] ?_
  refine cB 9 b 13 [.string ⟨#[83, 73, 80, 47, 50, 46, 48]⟩] 111 hT ?_
  intro w3 hT' hO3
  replace hU := hU.oth hO3 (by omega)
  have hq := hO3.kp hT (by decide)
  replace q8 := q8.kp hq
  replace q9 := q9.kp hq
  clear hq
  have hS3 := hS2.trans (hO3.below (by omega))
  have hz3 := hS3.size
  clear hT
  have hT := hT'
  clear hT'
  have hzz3 := hO3.size
  replace hO3 := Lib.hid hO3
  refine wN ?_
  go_upto_region 7 with fail
  refine pR [_] ?_
  refine Wl.step (fun K hK => ?_)
  refine step_new rfl (fun b => .slice (some ⟨b, 0, none⟩) 0 10) (#[.nilIface, .nilIface, .nilIface, .nilIface, .nilIface, .nilIface, .nilIface, .nilIface, .nilIface, .nilIface]) 81 (by kernel_rfl) ?_
  intro bo w4 bo_ge bo_lt hO hb4
  obtain ⟨hS4, hz4, hy4⟩ := zC hS3 hb4
  replace q8 := q8.grow hb4
  replace q9 := q9.grow hb4
  replace hU := hU.grow hb4
  replace hT := hT.grow hb4
  refine hK _ _ ?_
  clear hK K
  (try simp only [Act.put, zD, zE, zF])
  refine pP [.agg #[.slice (some ⟨bo, 0, none⟩) 0 10, .pointer none, .pointer none, .pointer none, .pointer none, .pointer none, .pointer none, .pointer none, .pointer none, .pointer none, .pointer none, .pointer none, .bool false], .pointer (some ⟨b, 0, none⟩), .pointer (some ⟨b, 0, none⟩), .pointer (some ⟨b, 0, none⟩)] ?_
  refine cB 102 b 0 [.slice (some ⟨bo, 0, none⟩) 0 10, .pointer none, .pointer none, .pointer none, .pointer none, .pointer none, .pointer none, .pointer none, .pointer none, .pointer none, .pointer none, .pointer none, .bool false] 111 hT ?_
  intro w5 hT' hO5
  replace hU := hU.oth hO5 (by omega)
  replace hO := hO.oth hO5 (by omega)
  have hq := hO5.kp hT (by decide)
  replace q8 := q8.kp hq
  replace q9 := q9.kp hq
  clear hq
  have hS5 := hS4.trans (hO5.below (by omega))
  have hz5 := hS5.size
  clear hT
  have hT := hT'
  clear hT'
  have hzz5 := hO5.size
  replace hO5 := Lib.hid hO5
  refine wN ?_
  go_upto_region 8 with fail
  refine pR [_, _, .pointer (some ⟨b, 0, none⟩), .pointer (some ⟨b, 18, none⟩)] ?_
  refine cB 109 b 18 [.string m] 111 hT ?_
  intro w6 hT' hO6
  replace hU := hU.oth hO6 (by omega)
  replace hO := hO.oth hO6 (by omega)
  have hq := hO6.kp hT (by decide)
  replace q8 := q8.kp hq
  replace q9 := q9.kp hq
  clear hq
  have hS6 := hS5.trans (hO6.below (by omega))
  have hz6 := hS6.size
  clear hT
  have hT := hT'
  clear hT'
  have hzz6 := hO6.size
  replace hO6 := Lib.hid hO6
  refine wN ?_
  go_upto_region 9 with fail
  refine pR [_] ?_
  refine Wl.la (#[.string u.scheme, .string u.raw, .bool u.star, .bool u.slashes, .string u.user, .string u.pass, .string u.host, .int .i64 u.port, .slice none k8 n8, .slice none k9 n9]) (hU.sub 0 _ (by kernel_rfl)) underlying74 ?_
  refine pP [.pointer (some ⟨b, 0, none⟩), .pointer (some ⟨b, 19, none⟩)] ?_
  refine cB 74 b 19 [.string u.scheme, .string u.raw, .bool u.star, .bool u.slashes, .string u.user, .string u.pass, .string u.host, .int .i64 u.port, .slice none k8 n8, .slice none k9 n9] 111 hT ?_
  intro w7 hT' hO7
  replace hU := hU.oth hO7 (by omega)
  replace hO := hO.oth hO7 (by omega)
  have hq := hO7.kp hT (by decide)
  replace q8 := q8.kp hq
  replace q9 := q9.kp hq
  clear hq
  have hS7 := hS6.trans (hO7.below (by omega))
  have hz7 := hS7.size
  clear hT
  have hT := hT'
  clear hT'
  have hzz7 := hO7.size
  replace hO7 := Lib.hid hO7
  refine wN ?_
  go_upto_region 10 with fail
  refine pR [_, .pointer (some ⟨b, 0, none⟩), .pointer (some ⟨b, 0, none⟩), .pointer (some ⟨b, 14, none⟩)] ?_
  refine cB 22 b 14 [.slice none 0 0] 111 hT ?_
  intro w8 hT' hO8
  replace hU := hU.oth hO8 (by omega)
  replace hO := hO.oth hO8 (by omega)
  have hq := hO8.kp hT (by decide)
  replace q8 := q8.kp hq
  replace q9 := q9.kp hq
  clear hq
  have hS8 := hS7.trans (hO8.below (by omega))
  have hz8 := hS8.size
  clear hT
  have hT := hT'
  clear hT'
  have hzz8 := hO8.size
  replace hO8 := Lib.hid hO8
  refine wN ?_
  go_upto_region 11 with fail
  refine pS [_, _] ?_
  go_wp2
  go_ret
  refine ⟨b, bo, _, rfl, SUR.mk' (u := u) q8 q9 HLO.out HHI.out, hT, hO, by omega, by omega, hT.lt, by assumption⟩
 ·go_enter func57, ntmps57
  go_upto_region 0 with fail
  apply wR
  refine cN #[.string u.scheme, .string u.raw, .bool u.star, .bool u.slashes, .string u.user, .string u.pass, .string u.host, .int .i64 u.port, .slice none k8 n8, .slice (some a9) k9 n9] 74 ?_
  intro bu w1 bu_ge bu_lt hU hb1
  obtain ⟨hS1, hz1, hy1⟩ := zC hS0 hb1
  replace q8 := q8.grow hb1
  replace q9 := q9.grow hb1
  refine wP ?_
  refine pQ [_] ?_
  go_upto_region 1 with fail
  refine pR [.pointer (some ⟨bu, 8, none⟩)] ?_
  refine Wl.ld (hU.cell 8 (.slice none k8 n8) (by kernel_rfl)) underlying72 ?_
  refine pQ [.bool false] ?_
  go_upto_region 3 with fail
  refine pR [.pointer (some ⟨bu, 9, none⟩)] ?_
  refine Wl.ld (hU.cell 9 (.slice (some a9) k9 n9) (by kernel_rfl)) underlying72 ?_
  refine pQ [.bool true] ?_
  go_upto_region 4 with fail
  refine pR [.pointer (some ⟨bu, 9, none⟩)] ?_
  refine Wl.ld (hU.cell 9 (.slice (some a9) k9 n9) (by kernel_rfl)) underlying72 ?_
  refine cC func74 #[.slice (some a9) k9 n9] (clone_c _ u.hs _ q9 (by have := HK9.out; omega)) ?_
  rintro e w2 ⟨r9, rfl, q9', hb2⟩
  refine cR ?_
  obtain ⟨hS2, hz2, hy2⟩ := zC hS1 hb2
  replace q8 := q8.grow hb2
  replace q9 := q9.grow hb2
  replace hU := hU.grow hb2
  obtain ⟨B9, c9, rfl⟩ := q9'.shape
  rw [← HK9.out] at q9' ⊢
  clear q9
  have q9 := q9'
  clear q9'
  refine pP [.pointer (some ⟨bu, 9, none⟩)] ?_
  refine cB 72 bu 9 [.slice B9 k9 c9] 74 hU ?_
  intro w3 hU' hO3
  have hq := hO3.kp hU (by decide)
  replace q8 := q8.kp hq
  replace q9 := q9.kp hq
  clear hq
  have hS3 := hS2.trans (hO3.below (by omega))
  have hz3 := hS3.size
  clear hU
  have hU := hU'
  clear hU'
  have hzz3 := hO3.size
  replace hO3 := Lib.hid hO3
  refine wN ?_
  go_upto_region 5 with fail
  refine pR [.agg #[.slice none 0 0, .pointer none, .pointer none, .pointer none, .pointer none, .pointer none, .pointer none, .pointer none, .pointer none, .pointer none, .pointer none, .pointer none, .bool false, .string ⟨#[]⟩, .slice none 0 0, .string ⟨#[]⟩, .string ⟨#[]⟩, .string ⟨#[]⟩, .string ⟨#[]⟩, .string ⟨#[]⟩, .string ⟨#[]⟩, .bool false, .bool false, .string ⟨#[]⟩, .string ⟨#[]⟩, .string ⟨#[]⟩, .int .i64 0, .slice none 0 0, .slice none 0 0]] ?_
  refine cN #[.slice none 0 0, .pointer none, .pointer none, .pointer none, .pointer none, .pointer none, .pointer none, .pointer none, .pointer none, .pointer none, .pointer none, .pointer none, .bool false, .string ⟨#[]⟩, .slice none 0 0, .string ⟨#[]⟩, .string ⟨#[]⟩, .string ⟨#[]⟩, .string ⟨#[]⟩, .string ⟨#[]⟩, .string ⟨#[]⟩, .bool false, .bool false, .string ⟨#[]⟩, .string ⟨#[]⟩, .string ⟨#[]⟩, .int .i64 0, .slice none 0 0, .slice none 0 0] 111 ?_
  intro b w4 b_ge b_lt hT hb4
  obtain ⟨hS4, hz4, hy4⟩ := zC hS3 hb4
  replace q8 := q8.grow hb4
  replace q9 := q9.grow hb4
  replace hU := hU.grow hb4
  refine wP ?_
  refine pQ [_] ?_
  go_upto_region 6 with fail
  refine pR [_, .pointer (some ⟨b, 0, none⟩), .pointer (some ⟨b, 0, none⟩), .pointer (some ⟨b, 13, none⟩)] ?_
  refine cB 9 b 13 [.string ⟨#[83, 73, 80, 47, 50, 46, 48]⟩] 111 hT ?_
  intro w5 hT' hO5
  replace hU := hU.oth hO5 (by omega)
  have hq := hO5.kp hT (by decide)
  replace q8 := q8.kp hq
  replace q9 := q9.kp hq
  clear hq
  have hS5 := hS4.trans (hO5.below (by omega))
  have hz5 := hS5.size
  clear hT
  have hT := hT'
  clear hT'
  have hzz5 := hO5.size
  replace hO5 := Lib.hid hO5
  refine wN ?_
  go_upto_region 7 with fail
  refine pR [_] ?_
  refine Wl.step (fun K hK => ?_)
  refine step_new rfl (fun b => .slice (some ⟨b, 0, none⟩) 0 10) (#[.nilIface, .nilIface, .nilIface, .nilIface, .nilIface, .nilIface, .nilIface, .nilIface, .nilIface, .nilIface]) 81 (by kernel_rfl) ?_
  intro bo w6 bo_ge bo_lt hO hb6
  obtain ⟨hS6, hz6, hy6⟩ := zC hS5 hb6
  replace q8 := q8.grow hb6
  replace q9 := q9.grow hb6
  replace hU := hU.grow hb6
  replace hT := hT.grow hb6
  refine hK _ _ ?_
  clear hK K
  (try simp only [Act.put, zD, zE, zF])
  refine pP [.agg #[.slice (some ⟨bo, 0, none⟩) 0 10, .pointer none, .pointer none, .pointer none, .pointer none, .pointer none, .pointer none, .pointer none, .pointer none, .pointer none, .pointer none, .pointer none, .bool false], .pointer (some ⟨b, 0, none⟩), .pointer (some ⟨b, 0, none⟩), .pointer (some ⟨b, 0, none⟩)] ?_
  refine cB 102 b 0 [.slice (some ⟨bo, 0, none⟩) 0 10, .pointer none, .pointer none, .pointer none, .pointer none, .pointer none, .pointer none, .pointer none, .pointer none, .pointer none, .pointer none, .pointer none, .bool false] 111 hT ?_
  intro w7 hT' hO7
  replace hU := hU.oth hO7 (by omega)
  replace hO := hO.oth hO7 (by omega)
  have hq := hO7.kp hT (by decide)
  replace q8 := q8.kp hq
  replace q9 := q9.kp hq
  clear hq
  have hS7 := hS6.trans (hO7.below (by omega))
  have hz7 := hS7.size
  clear hT
  have hT := hT'
  clear hT'
  have hzz7 := hO7.size
  replace hO7 := Lib.hid hO7
  refine wN ?_
  go_upto_region 8 with fail
  refine pR [_, _, .pointer (some ⟨b, 0, none⟩), .pointer (some ⟨b, 18, none⟩)] ?_
  refine cB 109 b 18 [.string m] 111 hT ?_
  intro w8 hT' hO8
  replace hU := hU.oth hO8 (by omega)
  replace hO := hO.oth hO8 (by omega)
  have hq := hO8.kp hT (by decide)
  replace q8 := q8.kp hq
  replace q9 := q9.kp hq
  clear hq
  have hS8 := hS7.trans (hO8.below (by omega))
  have hz8 := hS8.size
  clear hT
  have hT := hT'
  clear hT'
  have hzz8 := hO8.size
  replace hO8 := Lib.hid hO8
  refine wN ?_
  go_upto_region 9 with fail
  refine pR [_] ?_
  refine Wl.la (#[.string u.scheme, .string u.raw, .bool u.star, .bool u.slashes, .string u.user, .string u.pass, .string u.host, .int .i64 u.port, .slice none k8 n8, .slice B9 k9 c9]) (hU.sub 0 _ (by kernel_rfl)) underlying74 ?_
  refine pP [.pointer (some ⟨b, 0, none⟩), .pointer (some ⟨b, 19, none⟩)] ?_
  refine cB 74 b 19 [.string u.scheme, .string u.raw, .bool u.star, .bool u.slashes, .string u.user, .string u.pass, .string u.host, .int .i64 u.port, .slice none k8 n8, .slice B9 k9 c9] 111 hT ?_
  intro w9 hT' hO9
  replace hU := hU.oth hO9 (by omega)
  replace hO := hO.oth hO9 (by omega)
  have hq := hO9.kp hT (by decide)
  replace q8 := q8.kp hq
  replace q9 := q9.kp hq
  clear hq
  have hS9 := hS8.trans (hO9.below (by omega))
  have hz9 := hS9.size
  clear hT
  have hT := hT'
  clear hT'
  have hzz9 := hO9.size
  replace hO9 := Lib.hid hO9
  refine wN ?_
  go_upto_region 10 with fail
  refine pR [_, .pointer (some ⟨b, 0, none⟩), .pointer (some ⟨b, 0, none⟩), .pointer (some ⟨b, 14, none⟩)] ?_
  refine cB 22 b 14 [.slice none 0 0] 111 hT ?_
  intro w10 hT' hO10
  replace hU := hU.oth hO10 (by omega)
  replace hO := hO.oth hO10 (by omega)
  have hq := hO10.kp hT (by decide)
  replace q8 := q8.kp hq
  replace q9 := q9.kp hq
  clear hq
  have hS10 := hS9.trans (hO10.below (by omega))
  have hz10 := hS10.size
  clear hT
  have hT := hT'
  clear hT'
  have hzz10 := hO10.size
  replace hO10 := Lib.hid hO10
  refine wN ?_
  go_upto_region 11 with fail
  refine pS [_, _] ?_
  go_wp2
  go_ret
  refine ⟨b, bo, _, rfl, SUR.mk' (u := u) q8 q9 HLO.out HHI.out, hT, hO, by omega, by omega, hT.lt, by assumption⟩
 ·go_enter func57, ntmps57
  go_upto_region 0 with fail
  apply wR
  refine cN #[.string u.scheme, .string u.raw, .bool u.star, .bool u.slashes, .string u.user, .string u.pass, .string u.host, .int .i64 u.port, .slice (some a8) k8 n8, .slice none k9 n9] 74 ?_
  intro bu w1 bu_ge bu_lt hU hb1
  obtain ⟨hS1, hz1, hy1⟩ := zC hS0 hb1
  replace q8 := q8.grow hb1
  replace q9 := q9.grow hb1
  refine wP ?_
  refine pQ [_] ?_
  go_upto_region 1 with fail
  refine pR [.pointer (some ⟨bu, 8, none⟩)] ?_
  refine Wl.ld (hU.cell 8 (.slice (some a8) k8 n8) (by kernel_rfl)) underlying72 ?_
  refine pQ [.bool true] ?_
  go_upto_region 2 with fail
  refine pR [.pointer (some ⟨bu, 8, none⟩)] ?_
  refine Wl.ld (hU.cell 8 (.slice (some a8) k8 n8) (by kernel_rfl)) underlying72 ?_
  refine cC func74 #[.slice (some a8) k8 n8] (clone_c _ u.ps _ q8 (by have := HK8.out; omega)) ?_
  rintro e w2 ⟨r8, rfl, q8', hb2⟩
  refine cR ?_
  obtain ⟨hS2, hz2, hy2⟩ := zC hS1 hb2
  replace q8 := q8.grow hb2
  replace q9 := q9.grow hb2
  replace hU := hU.grow hb2
  obtain ⟨B8, c8, rfl⟩ := q8'.shape
  rw [← HK8.out] at q8' ⊢
  clear q8
  have q8 := q8'
  clear q8'
  refine pP [.pointer (some ⟨bu, 8, none⟩)] ?_
  refine cB 72 bu 8 [.slice B8 k8 c8] 74 hU ?_
  intro w3 hU' hO3
  have hq := hO3.kp hU (by decide)
  replace q8 := q8.kp hq
  replace q9 := q9.kp hq
  clear hq
  have hS3 := hS2.trans (hO3.below (by omega))
  have hz3 := hS3.size
  clear hU
  have hU := hU'
  clear hU'
  have hzz3 := hO3.size
  replace hO3 := Lib.hid hO3
  refine wN ?_
  go_upto_region 3 with fail
  refine pR [.pointer (some ⟨bu, 9, none⟩)] ?_
  refine Wl.ld (hU.cell 9 (.slice none k9 n9) (by kernel_rfl)) underlying72 ?_
  refine pQ [.bool false] ?_
  go_upto_region 5 with fail
  refine pR [.agg #[.slice none 0 0, .pointer none, .pointer none, .pointer none, .pointer none, .pointer none, .pointer none, .pointer none, .pointer none, .pointer none, .pointer none, .pointer none, .bool false, .string ⟨#[]⟩, .slice none 0 0, .string ⟨#[]⟩, .string ⟨#[]⟩, .string ⟨#[]⟩, .string ⟨#[]⟩, .string ⟨#[]⟩, .string ⟨#[]⟩, .bool false, .bool false, .string ⟨#[]⟩, .string ⟨#[]⟩, .string ⟨#[]⟩, .int .i64 0, .slice none 0 0, .slice none 0 0]] ?_
  refine cN #[.slice none 0 0, .pointer none, .pointer none, .pointer none, .pointer none, .pointer none, .pointer none, .pointer none, .pointer none, .pointer none, .pointer none, .pointer none, .bool false, .string ⟨#[]⟩, .slice none 0 0, .string ⟨#[]⟩, .string ⟨#[]⟩, .string ⟨#[]⟩, .string ⟨#[]⟩, .string ⟨#[]⟩, .string ⟨#[]⟩, .bool false, .bool false, .string ⟨#[]⟩, .string ⟨#[]⟩, .string ⟨#[]⟩, .int .i64 0, .slice none 0 0, .slice none 0 0] 111 ?_
  intro b w4 b_ge b_lt hT hb4
  obtain ⟨hS4, hz4, hy4⟩ := zC hS3 hb4
  replace q8 := q8.grow hb4
  replace q9 := q9.grow hb4
  replace hU := hU.grow hb4
  refine wP ?_
  refine pQ [_] ?_
  go_upto_region 6 with fail
  refine pR [_, .pointer (some ⟨b, 0, none⟩), .pointer (some ⟨b, 0, none⟩), .pointer (some ⟨b, 13, none⟩)] ?_
  refine cB 9 b 13 [.string ⟨#[83, 73, 80, 47, 50, 46, 48]⟩] 111 hT ?_
  intro w5 hT' hO5
  replace hU := hU.oth hO5 (by omega)
  have hq := hO5.kp hT (by decide)
  replace q8 := q8.kp hq
  replace q9 := q9.kp hq
  clear hq
  have hS5 := hS4.trans (hO5.below (by omega))
  have hz5 := hS5.size
  clear hT
  have hT := hT'
  clear hT'
  have hzz5 := hO5.size
  replace hO5 := Lib.hid hO5
  refine wN ?_
  go_upto_region 7 with fail
  refine pR [_] ?_
  refine Wl.step (fun K hK => ?_)
  refine step_new rfl (fun b => .slice (some ⟨b, 0, none⟩) 0 10) (#[.nilIface, .nilIface, .nilIface, .nilIface, .nilIface, .nilIface, .nilIface, .nilIface, .nilIface, .nilIface]) 81 (by kernel_rfl) ?_
  intro bo w6 bo_ge bo_lt hO hb6
  obtain ⟨hS6, hz6, hy6⟩ := zC hS5 hb6
  replace q8 := q8.grow hb6
  replace q9 := q9.grow hb6
  replace hU := hU.grow hb6
  replace hT := hT.grow hb6
  refine hK _ _ ?_
  clear hK K
  (try simp only [Act.put, zD, zE, zF])
  refine pP [.agg #[.slice (some ⟨bo, 0, none⟩) 0 10, .pointer none, .pointer none, .pointer none, .pointer none, .pointer none, .pointer none, .pointer none, .pointer none, .pointer none, .pointer none, .pointer none, .bool false], .pointer (some ⟨b, 0, none⟩), .pointer (some ⟨b, 0, none⟩), .pointer (some ⟨b, 0, none⟩)] ?_
  refine cB 102 b 0 [.slice (some ⟨bo, 0, none⟩) 0 10, .pointer none, .pointer none, .pointer none, .pointer none, .pointer none, .pointer none, .pointer none, .pointer none, .pointer none, .pointer none, .pointer none, .bool false] 111 hT ?_
  intro w7 hT' hO7
  replace hU := hU.oth hO7 (by omega)
  replace hO := hO.oth hO7 (by omega)
  have hq := hO7.kp hT (by decide)
  replace q8 := q8.kp hq
  replace q9 := q9.kp hq
  clear hq
  have hS7 := hS6.trans (hO7.below (by omega))
  have hz7 := hS7.size
  clear hT
  have hT := hT'
  clear hT'
  have hzz7 := hO7.size
  replace hO7 := Lib.hid hO7
  refine wN ?_
  go_upto_region 8 with fail
  refine pR [_, _, .pointer (some ⟨b, 0, none⟩), .pointer (some ⟨b, 18, none⟩)] ?_
  refine cB 109 b 18 [.string m] 111 hT ?_
  intro w8 hT' hO8
  replace hU := hU.oth hO8 (by omega)
  replace hO := hO.oth hO8 (by omega)
  have hq := hO8.kp hT (by decide)
  replace q8 := q8.kp hq
  replace q9 := q9.kp hq
  clear hq
  have hS8 := hS7.trans (hO8.below (by omega))
  have hz8 := hS8.size
  clear hT
  have hT := hT'
  clear hT'
  have hzz8 := hO8.size
  replace hO8 := Lib.hid hO8
  refine wN ?_
  go_upto_region 9 with fail
  refine pR [_] ?_
  refine Wl.la (#[.string u.scheme, .string u.raw, .bool u.star, .bool u.slashes, .string u.user, .string u.pass, .string u.host, .int .i64 u.port, .slice B8 k8 c8, .slice none k9 n9]) (hU.sub 0 _ (by kernel_rfl)) underlying74 ?_
  refine pP [.pointer (some ⟨b, 0, none⟩), .pointer (some ⟨b, 19, none⟩)] ?_
  refine cB 74 b 19 [.string u.scheme, .string u.raw, .bool u.star, .bool u.slashes, .string u.user, .string u.pass, .string u.host, .int .i64 u.port, .slice B8 k8 c8, .slice none k9 n9] 111 hT ?_
  intro w9 hT' hO9
  replace hU := hU.oth hO9 (by omega)
  replace hO := hO.oth hO9 (by omega)
  have hq := hO9.kp hT (by decide)
  replace q8 := q8.kp hq
  replace q9 := q9.kp hq
  clear hq
  have hS9 := hS8.trans (hO9.below (by omega))
  have hz9 := hS9.size
  clear hT
  have hT := hT'
  clear hT'
  have hzz9 := hO9.size
  replace hO9 := Lib.hid hO9
  refine wN ?_
  go_upto_region 10 with fail
  refine pR [_, .pointer (some ⟨b, 0, none⟩), .pointer (some ⟨b, 0, none⟩), .pointer (some ⟨b, 14, none⟩)] ?_
  refine cB 22 b 14 [.slice none 0 0] 111 hT ?_
  intro w10 hT' hO10
  replace hU := hU.oth hO10 (by omega)
  replace hO := hO.oth hO10 (by omega)
  have hq := hO10.kp hT (by decide)
  replace q8 := q8.kp hq
  replace q9 := q9.kp hq
  clear hq
  have hS10 := hS9.trans (hO10.below (by omega))
  have hz10 := hS10.size
  clear hT
  have hT := hT'
  clear hT'
  have hzz10 := hO10.size
  replace hO10 := Lib.hid hO10
  refine wN ?_
  go_upto_region 11 with fail
  refine pS [_, _] ?_
  go_wp2
  go_ret
  refine ⟨b, bo, _, rfl, SUR.mk' (u := u) q8 q9 HLO.out HHI.out, hT, hO, by omega, by omega, hT.lt, by assumption⟩
 ·go_enter func57, ntmps57
  go_upto_region 0 with fail
  apply wR
  refine cN #[.string u.scheme, .string u.raw, .bool u.star, .bool u.slashes, .string u.user, .string u.pass, .string u.host, .int .i64 u.port, .slice (some a8) k8 n8, .slice (some a9) k9 n9] 74 ?_
  intro bu w1 bu_ge bu_lt hU hb1
  obtain ⟨hS1, hz1, hy1⟩ := zC hS0 hb1
  replace q8 := q8.grow hb1
  replace q9 := q9.grow hb1
  refine wP ?_
  refine pQ [_] ?_
  go_upto_region 1 with fail
  refine pR [.pointer (some ⟨bu, 8, none⟩)] ?_
  refine Wl.ld (hU.cell 8 (.slice (some a8) k8 n8) (by kernel_rfl)) underlying72 ?_
  refine pQ [.bool true] ?_
  go_upto_region 2 with fail
  refine pR [.pointer (some ⟨bu, 8, none⟩)] ?_
  refine Wl.ld (hU.cell 8 (.slice (some a8) k8 n8) (by kernel_rfl)) underlying72 ?_
  refine cC func74 #[.slice (some a8) k8 n8] (clone_c _ u.ps _ q8 (by have := HK8.out; omega)) ?_
  rintro e w2 ⟨r8, rfl, q8', hb2⟩
  refine cR ?_
  obtain ⟨hS2, hz2, hy2⟩ := zC hS1 hb2
  replace q8 := q8.grow hb2
  replace q9 := q9.grow hb2
  replace hU := hU.grow hb2
  obtain ⟨B8, c8, rfl⟩ := q8'.shape
  rw [← HK8.out] at q8' ⊢
  clear q8
  have q8 := q8'
  clear q8'
  refine pP [.pointer (some ⟨bu, 8, none⟩)] ?_
  refine cB 72 bu 8 [.slice B8 k8 c8] 74 hU ?_
  intro w3 hU' hO3
  have hq := hO3.kp hU (by decide)
  replace q8 := q8.kp hq
  replace q9 := q9.kp hq
  clear hq
  have hS3 := hS2.trans (hO3.below (by omega))
  have hz3 := hS3.size
  clear hU
  have hU := hU'
  clear hU'
  have hzz3 := hO3.size
  replace hO3 := Lib.hid hO3
  refine wN ?_
  go_upto_region 3 with fail
  refine pR [.pointer (some ⟨bu, 9, none⟩)] ?_
  refine Wl.ld (hU.cell 9 (.slice (some a9) k9 n9) (by kernel_rfl)) underlying72 ?_
  refine pQ [.bool true] ?_
  go_upto_region 4 with fail
  refine pR [.pointer (some ⟨bu, 9, none⟩)] ?_
  refine Wl.ld (hU.cell 9 (.slice (some a9) k9 n9) (by kernel_rfl)) underlying72 ?_
  refine cC func74 #[.slice (some a9) k9 n9] (clone_c _ u.hs _ q9 (by have := HK9.out; omega)) ?_
  rintro e w4 ⟨r9, rfl, q9', hb4⟩
  refine cR ?_
  obtain ⟨hS4, hz4, hy4⟩ := zC hS3 hb4
  replace q8 := q8.grow hb4
  replace q9 := q9.grow hb4
  replace hU := hU.grow hb4
  obtain ⟨B9, c9, rfl⟩ := q9'.shape
  rw [← HK9.out] at q9' ⊢
  clear q9
  have q9 := q9'
  clear q9'
  refine pP [.pointer (some ⟨bu, 9, none⟩)] ?_
  refine cB 72 bu 9 [.slice B9 k9 c9] 74 hU ?_
  intro w5 hU' hO5
  have hq := hO5.kp hU (by decide)
  replace q8 := q8.kp hq
  replace q9 := q9.kp hq
  clear hq
  have hS5 := hS4.trans (hO5.below (by omega))
  have hz5 := hS5.size
  clear hU
  have hU := hU'
  clear hU'
  have hzz5 := hO5.size
  replace hO5 := Lib.hid hO5
  refine wN ?_
  go_upto_region 5 with fail
  refine pR [.agg #[.slice none 0 0, .pointer none, .pointer none, .pointer none, .pointer none, .pointer none, .pointer none, .pointer none, .pointer none, .pointer none, .pointer none, .pointer none, .bool false, .string ⟨#[]⟩, .slice none 0 0, .string ⟨#[]⟩, .string ⟨#[]⟩, .string ⟨#[]⟩, .string ⟨#[]⟩, .string ⟨#[]⟩, .string ⟨#[]⟩, .bool false, .bool false, .string ⟨#[]⟩, .string ⟨#[]⟩, .string ⟨#[]⟩, .int .i64 0, .slice none 0 0, .slice none 0 0]] ?_
  refine cN #[.slice none 0 0, .pointer none, .pointer none, .pointer none, .pointer none, .pointer none, .pointer none, .pointer none, .pointer none, .pointer none, .pointer none, .pointer none, .bool false, .string ⟨#[]⟩, .slice none 0 0, .string ⟨#[]⟩, .string ⟨#[]⟩, .string ⟨#[]⟩, .string ⟨#[]⟩, .string ⟨#[]⟩, .string ⟨#[]⟩, .bool false, .bool false, .string ⟨#[]⟩, .string ⟨#[]⟩, .string ⟨#[]⟩, .int .i64 0, .slice none 0 0, .slice none 0 0] 111 ?_
  intro b w6 b_ge b_lt hT hb6
  obtain ⟨hS6, hz6, hy6⟩ := zC hS5 hb6
  replace q8 := q8.grow hb6
  replace q9 := q9.grow hb6
  replace hU := hU.grow hb6
  refine wP ?_
  refine pQ [_] ?_
  go_upto_region 6 with fail
  refine pR [_, .pointer (some ⟨b, 0, none⟩), .pointer (some ⟨b, 0, none⟩), .pointer (some ⟨b, 13, none⟩)] ?_
  refine cB 9 b 13 [.string ⟨#[83, 73, 80, 47, 50, 46, 48]⟩] 111 hT ?_
  intro w7 hT' hO7
  replace hU := hU.oth hO7 (by omega)
  have hq := hO7.kp hT (by decide)
  replace q8 := q8.kp hq
  replace q9 := q9.kp hq
  clear hq
  have hS7 := hS6.trans (hO7.below (by omega))
  have hz7 := hS7.size
  clear hT
  have hT := hT'
  clear hT'
  have hzz7 := hO7.size
  replace hO7 := Lib.hid hO7
  refine wN ?_
  go_upto_region 7 with fail
  refine pR [_] ?_
  refine Wl.step (fun K hK => ?_)
  refine step_new rfl (fun b => .slice (some ⟨b, 0, none⟩) 0 10) (#[.nilIface, .nilIface, .nilIface, .nilIface, .nilIface, .nilIface, .nilIface, .nilIface, .nilIface, .nilIface]) 81 (by kernel_rfl) ?_
  intro bo w8 bo_ge bo_lt hO hb8
  obtain ⟨hS8, hz8, hy8⟩ := zC hS7 hb8
  replace q8 := q8.grow hb8
  replace q9 := q9.grow hb8
  replace hU := hU.grow hb8
  replace hT := hT.grow hb8
  refine hK _ _ ?_
  clear hK K
  (try simp only [Act.put, zD, zE, zF])
  refine pP [.agg #[.slice (some ⟨bo, 0, none⟩) 0 10, .pointer none, .pointer none, .pointer none, .pointer none, .pointer none, .pointer none, .pointer none, .pointer none, .pointer none, .pointer none, .pointer none, .bool false], .pointer (some ⟨b, 0, none⟩), .pointer (some ⟨b, 0, none⟩), .pointer (some ⟨b, 0, none⟩)] ?_
  refine cB 102 b 0 [.slice (some ⟨bo, 0, none⟩) 0 10, .pointer none, .pointer none, .pointer none, .pointer none, .pointer none, .pointer none, .pointer none, .pointer none, .pointer none, .pointer none, .pointer none, .bool false] 111 hT ?_
  intro w9 hT' hO9
  replace hU := hU.oth hO9 (by omega)
  replace hO := hO.oth hO9 (by omega)
  have hq := hO9.kp hT (by decide)
  replace q8 := q8.kp hq
  replace q9 := q9.kp hq
  clear hq
  have hS9 := hS8.trans (hO9.below (by omega))
  have hz9 := hS9.size
  clear hT
  have hT := hT'
  clear hT'
  have hzz9 := hO9.size
  replace hO9 := Lib.hid hO9
  refine wN ?_
  go_upto_region 8 with fail
  refine pR [_, _, .pointer (some ⟨b, 0, none⟩), .pointer (some ⟨b, 18, none⟩)] ?_
  refine cB 109 b 18 [.string m] 111 hT ?_
  intro w10 hT' hO10
  replace hU := hU.oth hO10 (by omega)
  replace hO := hO.oth hO10 (by omega)
  have hq := hO10.kp hT (by decide)
  replace q8 := q8.kp hq
  replace q9 := q9.kp hq
  clear hq
  have hS10 := hS9.trans (hO10.below (by omega))
  have hz10 := hS10.size
  clear hT
  have hT := hT'
  clear hT'
  have hzz10 := hO10.size
  replace hO10 := Lib.hid hO10
  refine wN ?_
  go_upto_region 9 with fail
  refine pR [_] ?_
  refine Wl.la (#[.string u.scheme, .string u.raw, .bool u.star, .bool u.slashes, .string u.user, .string u.pass, .string u.host, .int .i64 u.port, .slice B8 k8 c8, .slice B9 k9 c9]) (hU.sub 0 _ (by kernel_rfl)) underlying74 ?_
  refine pP [.pointer (some ⟨b, 0, none⟩), .pointer (some ⟨b, 19, none⟩)] ?_
  refine cB 74 b 19 [.string u.scheme, .string u.raw, .bool u.star, .bool u.slashes, .string u.user, .string u.pass, .string u.host, .int .i64 u.port, .slice B8 k8 c8, .slice B9 k9 c9] 111 hT ?_
  intro w11 hT' hO11
  replace hU := hU.oth hO11 (by omega)
  replace hO := hO.oth hO11 (by omega)
  have hq := hO11.kp hT (by decide)
  replace q8 := q8.kp hq
  replace q9 := q9.kp hq
  clear hq
  have hS11 := hS10.trans (hO11.below (by omega))
  have hz11 := hS11.size
  clear hT
  have hT := hT'
  clear hT'
  have hzz11 := hO11.size
  replace hO11 := Lib.hid hO11
  refine wN ?_
  go_upto_region 10 with fail
  refine pR [_, .pointer (some ⟨b, 0, none⟩), .pointer (some ⟨b, 0, none⟩), .pointer (some ⟨b, 14, none⟩)] ?_
  refine cB 22 b 14 [.slice none 0 0] 111 hT ?_
  intro w12 hT' hO12
  replace hU := hU.oth hO12 (by omega)
  replace hO := hO.oth hO12 (by omega)
  have hq := hO12.kp hT (by decide)
  replace q8 := q8.kp hq
  replace q9 := q9.kp hq
  clear hq
  have hS12 := hS11.trans (hO12.below (by omega))
  have hz12 := hS12.size
  clear hT
  have hT := hT'
  clear hT'
  have hzz12 := hO12.size
  replace hO12 := Lib.hid hO12
  refine wN ?_
  go_upto_region 11 with fail
  refine pS [_, _] ?_
  go_wp2
  go_ret
  refine ⟨b, bo, _, rfl, SUR.mk' (u := u) q8 q9 HLO.out HHI.out, hT, hO, by omega, by omega, hT.lt, by assumption⟩
end Go.Proofs.YtfcllhdhfenmcaaGreatDoor
