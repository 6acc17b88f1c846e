/- Part 35 of the proof: laws and walks (merged by a program). -/
import Derived.Test.YtfcllhdhfenmcaaGreatDoorK01
import Derived.Test.YtfcllhdhfenmcaaGreatDoorK06
import Derived.Test.YtfcllhdhfenmcaaGreatDoorK23
import Derived.Test.YtfcllhdhfenmcaaGreatDoorK29
import Derived.Test.YtfcllhdhfenmcaaGreatDoorK31
import Derived.Test.YtfcllhdhfenmcaaGreatDoorK33
import Derived.Test.YtfcllhdhfenmcaaGreatDoorRows
import Derived.Test.YtfcllhdhfenmcaaGreatDoorShelf
import Derived.Lib.LaidU8
import Derived.Shelf.Strings.FieldsAny
import Derived.Lib.AtoiAllCases
import Derived.Lib.AppendIntMem
set_option linter.all false
set_option maxHeartbeats 8000000
set_option maxRecDepth 100000
namespace Go.Proofs.YtfcllhdhfenmcaaGreatDoor
open Go.RowKit Go.Proofs.Tryz
theorem laid_plain {W : World} (h : laidMetH Tryz.prog Rows.fnWhereUptoRow.laid W) : laidMet Tryz.prog Rows.fnWhereUptoRow.laid W := by
 have e : (Rows.fnWhereUptoRow.laid.filter fun x => x.2.handleName?.isSome) = [] := by kernel_rfl
 unfold laidMetH at h
 rw [e] at h
 exact h
theorem tab_of_reads {P : Program} {W : World} {name : String} {k : IntKind} {zs : List Int} {g : Nat} {t e : TypeId} {n : Nat}
 (hg : P.globalNamed name = some g) (hty : (P.globals[g]?).map (·.type) = some t) (ht : P.underlying t = some (.array n e)) (he : P.underlying e = some (.int k)) (hce : P.cellsOf e = 1) (hct : P.cellsOf t = n)
 (h : Lib.VarReads P W name (Lib.tabData k zs)) : Lib.TabIs P W name k zs := by
 obtain ⟨g', t', cs, fuel, p, hg', ht', hvar, hd⟩ := h
 obtain rfl := Option.some.inj (hg.symm.trans hg')
 obtain rfl := Option.some.inj (hty.symm.trans ht')
 unfold Lib.TabIs
 rw [hvar, ← Lib.cells_of_tab ht he hce hct hd]
theorem cell_of_reads {P : Program} {W : World} {name : String} {d : DataW Unit} {nm : String} {g : Nat} {t : TypeId} {ms : Array (String × TypeId)}
 (hg : P.globalNamed name = some g) (hty : (P.globals[g]?).map (·.type) = some t) (ht : P.underlying t = some (.interface ms)) (h : Lib.VarReads P W name (.iface nm d)) : ∃ te pe, W.cell? ⟨g, 0, none⟩ = some (.iface te pe) := by
 obtain ⟨g', t', cs, fuel, p, hg', ht', hvar, hd⟩ := h
 obtain rfl := Option.some.inj (hg.symm.trans hg')
 obtain rfl := Option.some.inj (hty.symm.trans ht')
 rw [World.var?_cell hg hvar 0]
 cases fuel with
 | zero => simp [DataW.trod] at hd
 | succ fuel =>
   obtain ⟨l⟩ := cs
   match l, hd with
   | [], hd => simp [DataW.trod, ht] at hd
   | [x], hd =>
     cases x
     case iface te pe => exact ⟨te, pe, rfl⟩
     all_goals simp [DataW.trod, ht] at hd
   | x :: y :: r, hd => simp [DataW.trod, ht] at hd
theorem tabIs_grow {P : Program} {n : String} {g : Nat} {k : IntKind} {zs : List Int} {w w' : World} (hg : P.globalNamed n = some g) (h : Lib.TabIs P w n k zs) (hb : Below w.heap.size w w') : Lib.TabIs P w' n k zs := by
 unfold Lib.TabIs World.var? at h ⊢
 rw [hg] at h ⊢
 simp only [Option.bind_some] at h ⊢
 have hlt : g < w.heap.size := by
  rcases Nat.lt_or_ge g w.heap.size with q | q
  ·exact q
  ·rw [Array.getElem?_eq_none q] at h; cases h
 rw [hb.block g hlt]
 exact h
theorem env_of (W : World) (hL : laidMetH Tryz.prog Rows.fnWhereUptoRow.laid W) : Env W := by
 have h := laid_plain hL
 have hpow : Lib.TabIs Tryz.prog W "internal/strconv.uint64pow10" .u64 Lib.pow10Tab :=
  tab_of_reads (g := 1) (t := 207) (e := 188) (n := 20) (by kernel_rfl) (by kernel_rfl) underlying207 underlying188 (by kernel_rfl) (by kernel_rfl) (Lib.laidMet.reads h (n := "internal/strconv.uint64pow10") (d := Rows.laid_internal_strconv_uint64pow10) (.tail _ (.tail _ (.head _))))
 have hrange := cell_of_reads (g := 7) (t := 76) (by kernel_rfl) (by kernel_rfl) underlying76 (Lib.laidMet.reads h (n := "strconv.ErrRange") (d := Rows.laid_strconv_ErrRange) (.tail _ (.tail _ (.tail _ (.head _)))))
 have hsyn := cell_of_reads (g := 6) (t := 76) (by kernel_rfl) (by kernel_rfl) underlying76 (Lib.laidMet.reads h (n := "strconv.ErrSyntax") (d := Rows.laid_strconv_ErrSyntax) (.tail _ (.tail _ (.tail _ (.tail _ (.head _))))))
 have hwhite : Lib.WhiteTab 3 W :=
  whiteTab_of_reads Tryz.lays199 (ρ := Tryz.lays199_ren) ⟨by kernel_rfl, by kernel_rfl, by kernel_rfl, by kernel_rfl, by kernel_rfl, by kernel_rfl, by kernel_rfl, by kernel_rfl⟩ (Lib.laidMet.reads h (n := "unicode.White_Space") (d := Rows.laid_unicode_White_Space) (.tail _ (.tail _ (.tail _ (.tail _ (.tail _ (.head _)))))))
 obtain ⟨te, pe, hsc⟩ := hsyn
 obtain ⟨tr, pr, hrc⟩ := hrange
 have hlt : ∀ (g : Nat) v, W.cell? ⟨g, 0, none⟩ = some v → g < W.heap.size := fun g v hv => by
  rcases Nat.lt_or_ge g W.heap.size with q | q
  ·exact q
  ·unfold World.cell? at hv
   rw [Array.getElem?_eq_none (by exact q)] at hv
   cases hv
 refine ⟨fun s w hw hs => ?_, fun s w hw hs => ?_, fun n w hw h0 h1 => ?_⟩
 ·have hp := isSpace_pays Tryz.lays199 w (WhiteTab_below hwhite hw)
  exact Tryz.strings_TrimLeftFunc_runes 127 #[] (fun args w => by kernel_rfl) Lib.isSpaceR s w hp
 ·have c6 : w.cell? ⟨6, 0, none⟩ = some (.iface te pe) := (hw.cell (p := ⟨6, 0, none⟩) (hlt _ _ hsc)).trans hsc
  have c7 : w.cell? ⟨7, 0, none⟩ = some (.iface tr pr) := (hw.cell (p := ⟨7, 0, none⟩) (hlt _ _ hrc)).trans hrc
  unfold num?
  cases hq : Lib.atoiAll s.data.toList with
  | ok v =>
    refine (Tryz.strconv_Atoi_ok s (by omega) v hq w).mono ?_
    rintro e w' ⟨rfl, hw'⟩
    refine ⟨v, _, rfl, Lib.atoiAll_bounds hq, ⟨rfl, rfl⟩, ?_⟩
    rcases hw' with rfl | ⟨t, rfl⟩
    ·exact Below.refl _ _
    ·exact bytesWorld_below _ _ _
  | range =>
    refine (Tryz.strconv_Atoi_range s (by omega) hq _ w c7 (.inr ⟨_, _, rfl⟩)).mono ?_
    rintro e w' ⟨N, rfl, _, _, hb⟩
    exact ⟨_, _, rfl, Lib.atoiSat_bounds _, ⟨_, _, rfl⟩, hb⟩
  | _ =>
    refine (Tryz.strconv_Atoi_syntax s (by omega) hq _ w c6 (.inr ⟨_, _, rfl⟩)).mono ?_
    rintro e w' ⟨N, rfl, _, _, hb⟩
    exact ⟨_, _, rfl, by omega, ⟨_, _, rfl⟩, hb⟩
 ·have ht := tabIs_grow (P := Tryz.prog) (g := 1) (by kernel_rfl) hpow hw
  refine (Tryz.strconv_Itoa n h0 h1 w ht).mono ?_
  rintro e w' ⟨rfl, k, os, rfl⟩
  exact ⟨rfl, Lib.below_grow _ _ (Nat.le_refl _) k os⟩
theorem mk_eq {l k : By} : mk l = mk k ↔ l = k := ⟨fun h => by rw [← mk_list l, h, mk_list], fun h => by rw [h]⟩
theorem mk_nil {l : By} : mk l = ⟨#[]⟩ ↔ l = [] := by
 have : (⟨#[]⟩ : ByteArray) = mk [] := rfl
 rw [this, mk_eq]
theorem mk_at (s : ByteArray) : mk s.data.toList = s := by cases s; unfold mk; simp
theorem decN_dd (n : Nat) : decN n = Lib.decDigits n := by
 induction n using Nat.strongRecOn with
 | ind n ih =>
   rw [decN, Lib.decDigits]
   split
   ·rfl
   ·rename_i h
    rw [ih (n / 10) (by omega)]
theorem itoa_dec {n : Int} (h : 0 ≤ n) : (itoaS n).data.toList = dec n := by
 unfold itoaS dec Lib.itoa
 rw [if_neg (by omega), if_neg (by omega), decN_dd]
theorem upS_mk (l : By) : upS (mk l) = mk (l.map upB) := by
 unfold upS
 rw [mk_list]
 have : Lib.toUpperA l = l.map upB := by
  unfold Lib.toUpperA
  apply List.map_congr_left
  intro c _
  unfold Lib.upperB upB
  have hc := c.toNat_lt
  by_cases h : 97 ≤ c.toNat ∧ c.toNat ≤ 122
  ·rw [if_pos h]
   rw [if_pos (by simpa [Lib.isLowerB, UInt8.le_iff_toNat_le] using h)]
   apply UInt8.toNat_inj.1
   simp [UInt8.toNat_sub]
   omega
  ·rw [if_neg h]
   rw [if_neg (by simpa [Lib.isLowerB, UInt8.le_iff_toNat_le] using h)]
 rw [this]
 rfl
theorem getV_map (nm : ByteArray) (l : List KV) : getV (l.map toPV) nm = (valueOfL nm.data.toList l).map mk := by
 unfold getV
 induction l with
 | nil => rfl
 | cons x t ih =>
   have e : (decide ((toPV x).k = nm)) = equalB x.k nm.data.toList := by
    unfold equalB toPV
    have : (mk x.k = nm) ↔ (x.k = nm.data.toList) := by rw [← mk_eq, mk_at]
    simp only [this]
   rw [List.map_cons, List.find?_cons, e, valueOfL]
   cases hq : equalB x.k nm.data.toList
   ·simp only [Bool.false_eq_true, if_false]
    exact ih
   ·simp only [if_true]
    rfl
theorem isHead_sort {h : Hd} (hh : isHeadB h = true) : 0 ≤ h.t ∧ h.t ≤ 14 := by
 unfold isHeadB at hh
 by_cases h0 : h.t = 0
 ·omega
 rw [if_neg h0] at hh
 by_cases hA : addressed h.t = true
 ·have := of_decide_eq_true hA; omega
 rw [if_neg hA] at hh
 by_cases hR : routed h.t = true
 ·have := of_decide_eq_true hR; omega
 rw [if_neg hR] at hh
 by_cases h6 : h.t = 6
 ·omega
 rw [if_neg h6] at hh
 by_cases hN : numbered h.t = true
 ·have := of_decide_eq_true hN; omega
 rw [if_neg hN] at hh
 by_cases h4 : h.t = 4
 ·omega
 rw [if_neg h4] at hh
 by_cases h10 : h.t = 10
 ·omega
 rw [if_neg h10] at hh
 by_cases h5 : h.t = 5
 ·omega
 rw [if_neg h5] at hh
 by_cases h9 : h.t = 9
 ·omega
 rw [if_neg h9] at hh
 cases hh
theorem toSH_t {h : Hd} (h0 : 0 ≤ h.t) (h1 : h.t ≤ 14) : (toSH h).t = h.t.toNat := by
 unfold toSH toSHu
 repeat' split
 all_goals first | rfl | skip
 ·rename_i q; simp [q]
 ·rename_i q; simp [q]
 ·rename_i a b c d e f
  have a' : ¬ (h.t = 1 ∨ h.t = 2 ∨ h.t = 3 ∨ h.t = 14) := fun q => a (decide_eq_true q)
  have b' : ¬ (h.t = 11 ∨ h.t = 12 ∨ h.t = 13) := fun q => b (decide_eq_true q)
  have c' : ¬ (h.t = 6 ∨ h.t = 7 ∨ h.t = 8) := fun q => c (decide_eq_true q)
  show 0 = h.t.toNat
  omega
theorem toSH_9 {h : Hd} (ht : h.t = 9) : toSH h = { (default : SH) with t := 9, s1 := mk h.proto, s2 := mk h.ver, s3 := mk h.tr, s4 := mk h.host, n := h.port, ps := h.ps.map toPV } := by
 unfold toSH toSHu
 rw [if_neg (by rw [ht]; decide), if_neg (by rw [ht]; decide), if_neg (by rw [ht]; decide), if_neg (by omega), if_neg (by omega), if_pos ht]
theorem toSH_11 {h : Hd} (ht : h.t = 11) : toSH h = { (default : SH) with t := 11, u := toSU h.uri } := by
 unfold toSH toSHu
 rw [if_neg (by rw [ht]; decide), if_pos (by rw [ht]; decide), ht]
 rfl
theorem plainH_9 {h : Hd} (ht : h.t = 9) : plainH h = { (default : Hd) with t := h.t, name := nameL h.t, proto := h.proto, ver := h.ver, tr := h.tr, host := h.host, port := h.port, ps := h.ps } := by
 unfold plainH
 rw [if_neg (by omega), if_neg (by rw [ht]; decide), if_neg (by rw [ht]; decide), if_neg (by rw [ht]; decide), if_neg (by omega), if_neg (by omega), if_pos ht]
theorem plainH_11 {h : Hd} (ht : h.t = 11) : plainH h = { (default : Hd) with t := h.t, name := nameL h.t, uri := h.uri } := by
 unfold plainH
 rw [if_neg (by omega), if_neg (by rw [ht]; decide), if_pos (by rw [ht]; decide)]
theorem nHd_pos {t : Int} {l : List Hd} {i : Nat} (hi : i < l.length) (ht : (hdAt l i).t = t) : 0 < nHd t l := by
 induction l generalizing i with
 | nil => simp at hi
 | cons x r ih =>
   unfold nHd
   cases i with
   | zero =>
     have : x.t = t := ht
     rw [if_pos this]
     omega
   | succ i =>
     have := ih (i := i) (by simpa using hi) ht
     split <;> omega
theorem fHd_one {t : Int} {l : List Hd} {i : Nat} (hi : i < l.length) (ht : (hdAt l i).t = t) (h1 : nHd t l ≤ 1) : fHd t l = plainH (hdAt l i) := by
 induction l generalizing i with
 | nil => simp at hi
 | cons x r ih =>
   unfold nHd at h1
   unfold fHd
   cases i with
   | zero =>
     have : x.t = t := ht
     rw [if_pos this]
     rfl
   | succ i =>
     have hi' : i < r.length := by simpa using hi
     have hp := nHd_pos hi' (t := t) ht
     by_cases hx : x.t = t
     ·rw [if_pos hx] at h1; omega
     ·rw [if_neg hx] at h1 ⊢
      exact ih hi' ht h1
theorem nHd_zero {t : Int} {l : List Hd} (h : ∀ i, i < l.length → (hdAt l i).t ≠ t) : nHd t l = 0 ∧ fHd t l = noneH := by
 induction l with
 | nil => exact ⟨rfl, rfl⟩
 | cons x r ih =>
   have hx : x.t ≠ t := h 0 (by simp)
   unfold nHd fHd
   rw [if_neg hx, if_neg hx]
   exact ih fun i hi => h (i + 1) (by simpa using hi)
structure Right (m : Ms) : Prop where
 len : m.heads.length ≤ 64
 hasBody : m.hasBody = true
 compact : m.compact = false
 ver : m.ver = verB
 start : startB m = true
 heads : ∀ i, i < m.heads.length → (hdAt m.heads i).t ≠ 8 ∧ isHeadB (hdAt m.heads i) = true
theorem right_of {m : Ms} (h : isMsgB m = true) : Right m := by
 unfold isMsgB at h
 simp only [Bool.and_eq_true, decide_eq_true_eq, Bool.not_eq_true'] at h
 obtain ⟨⟨⟨⟨⟨⟨⟨h1, h2⟩, h3⟩, h4⟩, h5⟩, h6⟩, h7⟩, h8⟩ := h
 refine ⟨h1, h2, h3, of_decide_eq_true h5, h6, fun i hi => ?_⟩
 have h9 := of_decide_eq_true h7 i hi
 unfold headB at h9
 simpa using h9
theorem hdAt_map (l : List Hd) (i : Nat) (h : i < l.length) (n : Nat) : (l.map toSH ++ [clenSH n]).getD i default = toSH (hdAt l i) := by
 rw [hdAt_get l i h]
 simp only [List.getD]
 rw [List.getElem?_append_left (by simpa using h), List.getElem?_map, List.getElem?_eq_getElem h]
 rfl
theorem map_at (l : List Hd) (i : Nat) (h : i < l.length) : (l.map toSH).getD i default = toSH (hdAt l i) := by
 rw [hdAt_get l i h]
 simp only [List.getD]
 rw [List.getElem?_map, List.getElem?_eq_getElem h]
 rfl
theorem clen_at (l : List Hd) (n : Nat) : (l.map toSH ++ [clenSH n]).getD l.length default = clenSH n := by
 simp only [List.getD]
 rw [List.getElem?_append_right (by simp)]
 simp
theorem hds_len (m : Ms) : (hdsOf m).length = m.heads.length + 1 := by unfold hdsOf; simp
theorem ref_some {m : Ms} (hR : Right m) {t : Nat} (ht : t ≠ 8) {i : Nat} (h : refT (hdsOf m) t = some i) : i < m.heads.length ∧ (hdAt m.heads i).t = (t : Int) ∧ (hdsOf m).getD i default = toSH (hdAt m.heads i) := by
 obtain ⟨h1, h2⟩ := refT_lt h
 rw [hds_len] at h1
 by_cases hi : i < m.heads.length
 ·have e := hdAt_map m.heads i hi m.body.length
  unfold hdsOf at h2 ⊢
  rw [e] at h2
  have hs := isHead_sort (hR.heads i hi).2
  rw [toSH_t hs.1 hs.2] at h2
  exact ⟨hi, by omega, e⟩
 ·obtain rfl : i = m.heads.length := by omega
  unfold hdsOf at h2
  rw [clen_at] at h2
  exact absurd h2.symm ht
theorem ref_none {m : Ms} (hR : Right m) {t : Nat} (h : refT (hdsOf m) t = none) (i : Nat) (hi : i < m.heads.length) : (hdAt m.heads i).t ≠ (t : Int) := by
 have h1 := refT_none h i (by rw [hds_len]; omega)
 unfold hdsOf at h1
 rw [hdAt_map m.heads i hi] at h1
 have hs := isHead_sort (hR.heads i hi).2
 rw [toSH_t hs.1 hs.2] at h1
 omega
theorem viaS_none {m : Ms} (hR : Right m) (h : viaS (hdsOf m) = none) : nHd 9 m.heads = 0 ∧ fHd 9 m.heads = noneH := by
 have h1 : refT (hdsOf m) 9 = none := by unfold viaS at h; cases hq : refT (hdsOf m) 9 with | none => rfl | some i => rw [hq] at h; cases h
 exact nHd_zero (ref_none hR h1)
theorem viaS_some {m : Ms} (hR : Right m) (hs : isSingleB m.heads = true) {x : SH} (h : viaS (hdsOf m) = some x) : ∃ g : Hd, isHeadB g = true ∧ g.t = 9 ∧ x = toSH g ∧ fHd 9 m.heads = plainH g ∧ nHd 9 m.heads = 1 := by
 unfold viaS at h
 cases hq : refT (hdsOf m) 9 with
 | none => rw [hq] at h; cases h
 | some i =>
   rw [hq] at h
   obtain ⟨h1, h2, h3⟩ := ref_some hR (by decide) hq
   have h4 : (hdsOf m).getD i default = x := Option.some.inj h
   rw [h3] at h4
   have hn := of_decide_eq_true hs 9 (by decide) (by decide)
   have hp := nHd_pos h1 h2
   exact ⟨_, (hR.heads i h1).2, h2, h4.symm, fHd_one h1 h2 hn, by have : nHd ((9 : Nat) : Int) m.heads = nHd 9 m.heads := rfl; omega⟩
theorem routeS_none {m : Ms} (hR : Right m) (h : routeS (hdsOf m) = none) : nHd 11 m.heads = 0 ∧ fHd 11 m.heads = noneH := by
 have h1 : refT (hdsOf m) 11 = none := by unfold routeS at h; cases hq : refT (hdsOf m) 11 with | none => rfl | some i => rw [hq] at h; cases h
 exact nHd_zero (ref_none hR h1)
theorem routeS_some {m : Ms} (hR : Right m) (hs : isSingleB m.heads = true) {x : SH} (h : routeS (hdsOf m) = some x) : ∃ g : Hd, isHeadB g = true ∧ g.t = 11 ∧ x = toSH g ∧ fHd 11 m.heads = plainH g ∧ nHd 11 m.heads = 1 := by
 unfold routeS at h
 cases hq : refT (hdsOf m) 11 with
 | none => rw [hq] at h; cases h
 | some i =>
   rw [hq] at h
   obtain ⟨h1, h2, h3⟩ := ref_some hR (by decide) hq
   have h4 : (hdsOf m).getD i default = x := Option.some.inj h
   rw [h3] at h4
   have hn := of_decide_eq_true hs 11 (by decide) (by decide)
   have hp := nHd_pos h1 h2
   exact ⟨_, (hR.heads i h1).2, h2, h4.symm, fHd_one h1 h2 hn, by have : nHd ((11 : Nat) : Int) m.heads = nHd 11 m.heads := rfl; omega⟩
structure ViaG (g : Hd) : Prop where
 t : g.t = 9
 trPos : 0 < g.tr.length
 trLen : g.tr.length ≤ 8192
 host : isHostB g.host = true
 port : 0 ≤ g.port ∧ g.port ≤ 65535
 ps : isParamsB g.ps false = true
theorem viaR_of {g : Hd} (h : isHeadB g = true) (ht : g.t = 9) : ViaG g := by
 unfold isHeadB at h
 rw [if_neg (by omega), if_neg (by rw [ht]; decide), if_neg (by rw [ht]; decide), if_neg (by omega), if_neg (by rw [ht]; decide), if_neg (by omega), if_neg (by omega), if_neg (by omega), if_pos ht] at h
 simp only [Bool.and_eq_true, decide_eq_true_eq] at h
 obtain ⟨⟨⟨⟨⟨h1, h2⟩, h3⟩, h4⟩, h5⟩, h6⟩ := h
 unfold isWordB at h3
 simp only [Bool.and_eq_true, decide_eq_true_eq] at h3
 exact ⟨ht, h3.2.1, h3.2.2, h4, h5, h6⟩
theorem routeR_of {g : Hd} (h : isHeadB g = true) (ht : g.t = 11) : isUriB g.uri = true := by
 unfold isHeadB at h
 rw [if_neg (by omega), if_neg (by rw [ht]; decide), if_pos (by rw [ht]; decide)] at h
 exact h
theorem host_len {l : By} (h : isHostB l = true) : l.length ≤ 8192 := by
 unfold isHostB at h
 simp only [Bool.and_eq_true, decide_eq_true_eq] at h
 exact h.2.2
structure UriR (u : Ur) : Prop where
 raw : u.raw = []
 host : isHostB u.host = true
 port : 0 ≤ u.port ∧ u.port ≤ 65535
 ps : isParamsB u.ps false = true
theorem uriR_of {u : Ur} (h : isUriB u = true) : UriR u := by
 unfold isUriB at h
 simp only [Bool.and_eq_true, decide_eq_true_eq] at h
 obtain ⟨⟨⟨⟨⟨⟨⟨⟨⟨⟨h1, h2⟩, h3⟩, h4⟩, h5⟩, h6⟩, h7⟩, h8⟩, h9⟩, h10⟩, h11⟩ := h
 exact ⟨List.eq_nil_of_length_eq_zero h2, h6, h5, h9⟩
theorem par_val {ps : List KV} (h : isParamsB ps false = true) {key v : By} (hv : valueOfL key ps = some v) : v.length ≤ 8192 ∧ ∀ (j : Nat) (b : UInt8), v[j]? = some b → b.toNat < 128 := by
 unfold isParamsB at h
 simp only [Bool.and_eq_true, decide_eq_true_eq] at h
 have hall := h.2.1
 clear h
 induction ps with
 | nil => cases hv
 | cons x t ih =>
   unfold valueOfL at hv
   split at hv
   ·have e := Option.some.inj hv
    have hp := hall 0 (by simp)
    have hk : kvAt (x :: t) 0 = x := rfl
    rw [hk] at hp
    unfold parB at hp
    simp only [Bool.and_eq_true, Bool.or_eq_true, decide_eq_true_eq, Bool.not_false, true_and] at hp
    rw [← e]
    rcases hp.2 with hw | hz
    ·unfold isWordB at hw
     simp only [Bool.and_eq_true, decide_eq_true_eq] at hw
     refine ⟨hw.2.2, fun j b hb => ?_⟩
     have hm := List.mem_of_getElem? hb
     have := List.all_eq_true.1 hw.1 b hm
     simp only [wordByteB, letterB, digitB, Bool.or_eq_true, decide_eq_true_eq] at this
     omega
    ·rw [List.eq_nil_of_length_eq_zero hz]
     exact ⟨by simp, fun j b hb => by simp at hb⟩
   ·exact ih hv fun i hi => hall (i + 1) (by simpa using hi)
theorem nm_gen {h : Hd} (h0 : h.t = 0) : nmS (toSH h) = mk h.name := by
 have e : toSH h = { (default : SH) with t := 0, s1 := mk h.name, s2 := mk h.text } := by
  unfold toSH toSHu
  rw [if_neg (by rw [h0]; decide), if_neg (by rw [h0]; decide), if_neg (by rw [h0]; decide), if_neg (by omega), if_neg (by omega), if_neg (by omega)]
 rw [e]
 rfl
theorem nm_not {h : Hd} (hh : isHeadB h = true) (hsm : h.name.length ≤ 1048576) (nm : ByteArray) (hx : ∀ c r, nm.data.toList = c :: r → c ≠ 120)
 (ht : ∀ t : Nat, 1 ≤ t → t ≤ 14 → (t : Int) = h.t → lowS (nmS { (default : SH) with t := t }) ≠ nm) : (nmS (toSH h)).size ≤ 100000000 ∧ lowS (nmS (toSH h)) ≠ nm := by
 have hs := isHead_sort hh
 by_cases h0 : h.t = 0
 ·rw [nm_gen h0]
  refine ⟨by rw [mk_size]; omega, fun e => ?_⟩
  unfold isHeadB at hh
  rw [if_pos h0] at hh
  simp only [Bool.and_eq_true] at hh
  have ho := hh.1
  unfold isOwnB at ho
  simp only [Bool.and_eq_true, decide_eq_true_eq] at ho
  obtain ⟨⟨h2, h3, _⟩, _⟩ := ho
  unfold lowS at e
  rw [mk_list] at e
  cases hq : h.name with
  | nil => rw [hq] at h2; simp at h2
  | cons a r =>
    rw [hq] at e h3
    have ha : a.toNat = 88 := h3
    rw [← e] at hx
    refine hx (upLow a) (r.map upLow) (by simp) ?_
    apply UInt8.toNat_inj.1
    unfold upLow
    rw [if_pos (by omega)]
    simp [ha]
 ·have e : nmS (toSH h) = nmS { (default : SH) with t := h.t.toNat } := by
   unfold nmS
   rw [toSH_t hs.1 hs.2]
   simp only []
   rw [if_neg (by omega), if_neg (by omega)]
  rw [e]
  have h1 := ht h.t.toNat (by omega) (by omega) (by omega)
  refine ⟨?_, h1⟩
  generalize hk : h.t.toNat = k
  have hk1 : k ≤ 14 := by omega
  clear ht h1 e
  rcases (show k = 0 ∨ k = 1 ∨ k = 2 ∨ k = 3 ∨ k = 4 ∨ k = 5 ∨ k = 6 ∨ k = 7 ∨ k = 8 ∨ k = 9 ∨ k = 10 ∨ k = 11 ∨ k = 12 ∨ k = 13 ∨ k = 14 by omega) with rfl | rfl | rfl | rfl | rfl | rfl | rfl | rfl | rfl | rfl | rfl | rfl | rfl | rfl | rfl
  all_goals (show ByteArray.size _ ≤ _; decide)
theorem low_names (nm : ByteArray) (p : Nat → Bool) (h : ([1, 2, 3, 4, 5, 6, 7, 8, 9, 10, 11, 12, 13, 14].all fun t => p t || !decide (lowS (nmS { (default : SH) with t := t }) = nm)) = true) (t : Nat) (h1 : 1 ≤ t) (h2 : t ≤ 14) (hp : p t = false) : lowS (nmS { (default : SH) with t := t }) ≠ nm := by
 have := List.all_eq_true.1 h t (by simp; omega)
 simp only [hp, Bool.false_or, Bool.not_eq_true', decide_eq_false_iff_not] at this
 exact this
theorem right_none {m : Ms} (hR : Right m) (hsm : m.Small) (nm : ByteArray) (k : Nat) (hx : ∀ c r, nm.data.toList = c :: r → c ≠ 120) (h : ([1, 2, 3, 4, 5, 6, 7, 8, 9, 10, 11, 12, 13, 14].all fun t => decide (t = k) || !decide (lowS (nmS { (default : SH) with t := t }) = nm)) = true)
 (hno : ∀ i, i < m.heads.length → (hdAt m.heads i).t ≠ (k : Int)) : NoneOf (m.heads.map toSH) nm := fun i hi => by
 have hi : i < m.heads.length := by simpa using hi
 rw [map_at m.heads i hi]
 have hq := hR.heads i hi
 refine nm_not hq.2 (hsm.heads.each i hi).name nm hx fun t h1 h2 h3 => low_names nm (fun t => decide (t = k)) h t h1 h2 (decide_eq_false fun e => hno i hi (by rw [← h3, e]))
theorem right_none1 {m : Ms} (hR : Right m) (hsm : m.Small) (nm : ByteArray) (k : Nat) (hk : k ≠ 8) (hx : ∀ c r, nm.data.toList = c :: r → c ≠ 120) (h : ([1, 2, 3, 4, 5, 6, 7, 8, 9, 10, 11, 12, 13, 14].all fun t => decide (t = k) || !decide (lowS (nmS { (default : SH) with t := t }) = nm)) = true)
 (hno : ∀ i, i < m.heads.length → (hdAt m.heads i).t ≠ (k : Int)) : NoneOf (hdsOf m) nm := fun i hi => by
 by_cases hl : i < m.heads.length
 ·have := right_none hR hsm nm k hx h hno i (by simpa using hl)
  unfold hdsOf
  rw [hdAt_map m.heads i hl]
  rwa [map_at m.heads i hl] at this
 ·have hi' : i = m.heads.length := by rw [hds_len] at hi; omega
  subst hi'
  unfold hdsOf
  rw [clen_at]
  have e : nmS (clenSH m.body.length) = nmS { (default : SH) with t := 8 } := rfl
  rw [e]
  exact ⟨by decide, low_names nm (fun t => decide (t = k)) h 8 (by decide) (by decide) (decide_eq_false (fun q => hk q.symm))⟩
theorem good_of {m : Ms} (hR : Right m) (hsm : m.Small) : GoodMs m := by
 have hno : ∀ i, i < m.heads.length → (hdAt m.heads i).t ≠ ((8 : Nat) : Int) := fun i hi => (hR.heads i hi).1
 refine ⟨hR.hasBody, by rw [hR.ver]; rfl, fun i hi => ?_, ?_, right_none hR hsm _ 8 (by intro c r e; cases e; decide) (by decide +kernel) hno, right_none hR hsm _ 8 (by intro c r e; cases e; decide) (by decide +kernel) hno⟩
 ·intro hq
  have hh := (hR.heads i hi).2
  unfold isHeadB at hh
  have h0 : ¬ (hdAt m.heads i).t = 0 := by
   intro e
   rw [e] at hq
   revert hq
   decide
  rw [if_neg h0] at hh
  by_cases hA : addressed (hdAt m.heads i).t = true
  ·rw [if_pos hA] at hh
   simp only [Bool.and_eq_true] at hh
   exact (uriR_of hh.1.2).raw
  ·rw [if_neg hA] at hh
   rcases hq with hq | hq
   ·exact absurd hq hA
   ·rw [if_pos hq] at hh
    exact (uriR_of hh).raw
 ·cases hq : refT (m.heads.map toSH) 8 with
  | none => rfl
  | some i =>
    obtain ⟨h1, h2⟩ := refT_lt hq
    have h1 : i < m.heads.length := by simpa using h1
    rw [map_at m.heads i h1] at h2
    have hs := isHead_sort (hR.heads i h1).2
    rw [toSH_t hs.1 hs.2] at h2
    have := (hR.heads i h1).1
    omega
theorem stray_of {m : Ms} (hR : Right m) (hsm : m.Small) : NoStray (hdsOf m) :=
 ⟨fun h => ⟨right_none1 hR hsm _ 9 (by decide) (by intro c r e; cases e; decide) (by decide +kernel) (ref_none hR h), right_none1 hR hsm _ 9 (by decide) (by intro c r e; cases e; decide) (by decide +kernel) (ref_none hR h)⟩,
  fun h => right_none1 hR hsm _ 11 (by decide) (by intro c r e; cases e; decide) (by decide +kernel) (ref_none hR h)⟩
theorem noBr_host {l : By} (h : isHostB l = true) : NoBr (mk l) := by
 unfold isHostB at h
 simp only [Bool.and_eq_true, decide_eq_true_eq] at h
 have hall := h.1
 have hb : ∀ i, i < l.length → noBr (gb (mk l) i) := fun i hi => by
  have hm : l[i] ∈ l := List.getElem_mem hi
  have h1 := List.all_eq_true.1 hall _ hm
  have e : gb (mk l) i = l[i].toNat := by
   rw [gb_at _ _ (by rw [mk_size]; exact hi)]
   rfl
  rw [e]
  simp only [hostByteB, letterB, digitB, Bool.or_eq_true, decide_eq_true_eq] at h1
  unfold noBr
  omega
 intro h0
 rw [mk_size] at h0
 rw [mk_size]
 exact ⟨hb 0 h0, hb _ (by omega)⟩
def rcvB : By := [114, 101, 99, 101, 105, 118, 101, 100]
def rptB : By := [114, 112, 111, 114, 116]
def udpB : By := [85, 68, 80]
def byV (m : Ms) : By := if 0 < nHd 9 m.heads then (fHd 9 m.heads).tr else udpB
def uriW (m : Ms) : Ur := if 0 < nHd 11 m.heads then (fHd 11 m.heads).uri else m.uri
theorem tr_via {m : Ms} (hR : Right m) (hs : isSingleB m.heads = true) : trVia (viaS (hdsOf m)) = mk (byV m) := by
 cases hv : viaS (hdsOf m) with
 | none =>
   obtain ⟨h1, _⟩ := viaS_none hR hv
   unfold byV
   rw [if_neg (by omega)]
   rfl
 | some x =>
   obtain ⟨g, hg, ht, rfl, hf, hn⟩ := viaS_some hR hs hv
   have hG := viaR_of hg ht
   unfold byV
   rw [if_pos (by omega), hf, plainH_9 ht, toSH_9 ht]
   unfold trVia
   show (if mk g.tr = ⟨#[]⟩ then udpS else mk g.tr) = mk g.tr
   rw [if_neg]
   intro e
   have := hG.trPos
   rw [mk_nil.1 e] at this
   simp at this
theorem byV_len {m : Ms} (hR : Right m) (hs : isSingleB m.heads = true) : (byV m).length ≤ 8192 := by
 cases hv : viaS (hdsOf m) with
 | none =>
   obtain ⟨h1, _⟩ := viaS_none hR hv
   unfold byV
   rw [if_neg (by omega)]
   decide
 | some x =>
   obtain ⟨g, hg, ht, rfl, hf, hn⟩ := viaS_some hR hs hv
   unfold byV
   rw [if_pos (by omega), hf, plainH_9 ht]
   exact (viaR_of hg ht).trLen
theorem routeM {m : Ms} (hR : Right m) (hs : isSingleB m.heads = true) : (match routeS (hdsOf m) with | some r => r.u | none => toSU m.uri) = toSU (uriW m) := by
 cases hv : routeS (hdsOf m) with
 | none =>
   obtain ⟨h1, _⟩ := routeS_none hR hv
   unfold uriW
   rw [if_neg (by omega)]
 | some x =>
   obtain ⟨g, hg, ht, rfl, hf, hn⟩ := routeS_some hR hs hv
   unfold uriW
   rw [if_pos (by omega), hf, plainH_11 ht, toSH_11 ht]
theorem uriW_R {m : Ms} (hR : Right m) (hs : isSingleB m.heads = true) (hr : m.resp = false) : UriR (uriW m) := by
 cases hv : routeS (hdsOf m) with
 | none =>
   obtain ⟨h1, _⟩ := routeS_none hR hv
   unfold uriW
   rw [if_neg (by omega)]
   have := hR.start
   unfold startB at this
   rw [hr] at this
   simp only [Bool.false_eq_true, if_false, Bool.and_eq_true] at this
   exact uriR_of this.2
 | some x =>
   obtain ⟨g, hg, ht, rfl, hf, hn⟩ := routeS_some hR hs hv
   unfold uriW
   rw [if_pos (by omega), hf, plainH_11 ht]
   show UriR g.uri
   exact uriR_of (routeR_of hg ht)
theorem tr_uri (u : Ur) (l : By) : trUri (toSU u) (mk l) = mk (byL u.ps l) := by
 unfold trUri byL
 have e : (toSU u).ps = u.ps.map toPV := rfl
 have k : trNm.data.toList = trNmB := rfl
 rw [e, getV_map, k]
 cases hq : valueOfL trNmB u.ps with
 | none => rfl
 | some x =>
   show (if mk x = ⟨#[]⟩ then mk l else upS (mk x)) = mk (if x = [] then l else x.map upB)
   by_cases hx : x = []
   ·rw [if_pos hx, if_pos (mk_nil.2 hx)]
   ·rw [if_neg hx, if_neg (fun e => hx (mk_nil.1 e)), upS_mk]
theorem tr_sec (u : Ur) (b : By) : trSec (toSU u) (mk b) = mk (secL u.scheme b) := by
 unfold trSec secL
 have e : (toSU u).scheme = mk u.scheme := rfl
 have k : sipsS = mk sipsB := rfl
 have k1 : (⟨#[84, 67, 80]⟩ : ByteArray) = mk [84, 67, 80] := rfl
 have k2 : (⟨#[87, 83]⟩ : ByteArray) = mk [87, 83] := rfl
 rw [e, k, k1, k2]
 by_cases h : u.scheme = sipsB
 ·rw [if_pos (mk_eq.2 h), if_pos h]
  by_cases h1 : b = [84, 67, 80]
  ·rw [if_pos (mk_eq.2 h1), if_pos h1]; rfl
  ·rw [if_neg (fun e => h1 (mk_eq.1 e)), if_neg h1]
   by_cases h2 : b = [87, 83]
   ·rw [if_pos (mk_eq.2 h2), if_pos h2]; rfl
   ·rw [if_neg (fun e => h2 (mk_eq.1 e)), if_neg h2]
 ·rw [if_neg (fun e => h (mk_eq.1 e)), if_neg h]
theorem tr_req {m : Ms} (hR : Right m) (hs : isSingleB m.heads = true) : trReq (hdsOf m) (toSU m.uri) = mk (securedL (uriW m) (byV m)) := by
 have h := routeM hR hs
 unfold trReq
 cases hv : routeS (hdsOf m) with
 | none =>
   rw [hv] at h
   simp only [] at h ⊢
   rw [h, tr_via hR hs, tr_uri, tr_sec]
   rfl
 | some r =>
   rw [hv] at h
   simp only [] at h ⊢
   rw [h, tr_via hR hs, tr_uri, tr_sec]
   rfl
theorem sec_len {sc b : By} (h : b.length ≤ 8192) : (secL sc b).length ≤ 8192 := by
 unfold secL
 repeat' split
 all_goals first | exact h | decide
theorem by_len {ps : List KV} {l : By} (hp : isParamsB ps false = true) (hl : l.length ≤ 8192) : (byL ps l).length ≤ 8192 := by
 unfold byL
 split
 ·split
  ·exact hl
  ·rename_i x hx _
   rw [List.length_map]
   exact (par_val hp hx).1
 ·exact hl
theorem hp_list {h : By} {p : Int} (h0 : 0 ≤ p) : (hostPortS (mk h) p).data.toList = h ++ [58] ++ dec p := by
 unfold hostPortS
 rw [ByteArray.data_append, ByteArray.data_append, Array.toList_append, Array.toList_append, itoa_dec h0, mk_list]
theorem port_eq {p : Int} {b : By} (h0 : 0 ≤ p) : (if 0 < p then p else dport (lowS (mk b))) = portL p b := by
 unfold portL
 by_cases h : p = 0
 ·rw [if_neg (by omega), if_pos h]
 ·rw [if_pos (by omega), if_neg h]
theorem dport_pos (l : ByteArray) : 0 ≤ dport l := by
 unfold dport
 repeat' split
 all_goals decide
theorem portL_pos {p : Int} {b : By} (h0 : 0 ≤ p) : 0 ≤ portL p b := by
 unfold portL
 split
 ·exact dport_pos _
 ·exact h0
theorem dst_req {m : Ms} (hR : Right m) (hs : isSingleB m.heads = true) (hr : m.resp = false) : (dstReq (hdsOf m) (toSU m.uri)).data.toList = reachedL (uriW m).host (uriW m).port (securedL (uriW m) (byV m)) := by
 have hU := uriW_R hR hs hr
 have h := routeM hR hs
 have e1 : (toSU (uriW m)).host = mk (uriW m).host := rfl
 have e2 : (toSU (uriW m)).port = (uriW m).port := rfl
 unfold dstReq
 rw [tr_req hR hs]
 cases hv : routeS (hdsOf m) with
 | none =>
   rw [hv] at h
   simp only [] at h ⊢
   rw [h, e1, e2, port_eq hU.port.1, hp_list (portL_pos hU.port.1)]
   rfl
 | some r =>
   rw [hv] at h
   simp only [] at h ⊢
   rw [h, e1, e2, port_eq hU.port.1, hp_list (portL_pos hU.port.1)]
   rfl
theorem via_hp {g : Hd} (hG : ViaG g) (h1 : valueOfL rcvB g.ps = none) (h2 : valueOfL rptB g.ps = none) (b : By) : (hostPortS (hpHost (toSH g)) (hpPort (toSH g) (hpP0 (toSH g) (mk b)))).data.toList = reachedL g.host g.port b ∧ hpHost (toSH g) = mk g.host := by
 have e1 : hpHost (toSH g) = mk g.host := by
  rw [toSH_9 hG.t]
  refine hpHost_0 ?_
  show getV (g.ps.map toPV) rcvNm = none
  rw [getV_map, show rcvNm.data.toList = rcvB from rfl, h1]
  rfl
 have e2 : hpPort (toSH g) (hpP0 (toSH g) (mk b)) = hpP0 (toSH g) (mk b) := by
  refine hpPort_0 ?_
  rw [toSH_9 hG.t]
  show getV (g.ps.map toPV) rptNm = none
  rw [getV_map, show rptNm.data.toList = rptB from rfl, h2]
  rfl
 have e3 : hpP0 (toSH g) (mk b) = portL g.port b := by
  rw [toSH_9 hG.t]
  unfold hpP0
  exact port_eq hG.port.1
 refine ⟨?_, e1⟩
 rw [e1, e2, e3, hp_list (portL_pos hG.port.1)]
 rfl
theorem via_ps {m : Ms} {g : Hd} (hf : fHd 9 m.heads = plainH g) (ht : g.t = 9) : (fHd 9 m.heads).ps = g.ps ∧ (fHd 9 m.heads).host = g.host ∧ (fHd 9 m.heads).port = g.port := by
 rw [hf, plainH_9 ht]
 exact ⟨rfl, rfl, rfl⟩
theorem src_ok {m : Ms} (hR : Right m) (hs : isSingleB m.heads = true) (h1 : valueOfL rcvB (fHd 9 m.heads).ps = none) (h2 : valueOfL rptB (fHd 9 m.heads).ps = none) : SrcOK (hdsOf m) := by
 refine ⟨fun x hx => ?_⟩
 obtain ⟨g, hg, ht, rfl, hf, hn⟩ := viaS_some hR hs hx
 have hG := viaR_of hg ht
 have hp := (via_ps hf ht).1
 rw [hp] at h1 h2
 have hh := (via_hp hG h1 h2 []).2
 refine ⟨⟨?_, fun v hv => ?_⟩, ?_, ?_, ?_, ?_⟩
 ·rw [toSH_9 ht]
  show (g.ps.map toPV).length ≤ _
  have hl := hG.ps
  unfold isParamsB at hl
  simp only [Bool.and_eq_true, decide_eq_true_eq] at hl
  rw [List.length_map]
  omega
 ·rw [toSH_9 ht] at hv
  have e : getV (g.ps.map toPV) rptNm = some v := hv
  rw [getV_map, show rptNm.data.toList = rptB from rfl, h2] at e
  cases e
 ·rw [hh, mk_size]
  have := host_len hG.host
  omega
 ·rw [hh]
  exact noBr_host hG.host
 ·rw [toSH_9 ht]
  show -9223372036854775808 ≤ g.port
  have := hG.port
  omega
 ·rw [toSH_9 ht]
  show g.port ≤ 9223372036854775807
  have := hG.port
  omega
theorem tr_ok {m : Ms} (hR : Right m) (hs : isSingleB m.heads = true) (hr : m.resp = false) : TrOK (match routeS (hdsOf m) with | some r => r.u | none => toSU m.uri) := by
 rw [routeM hR hs]
 have hU := uriW_R hR hs hr
 have hl := hU.ps
 unfold isParamsB at hl
 simp only [Bool.and_eq_true, decide_eq_true_eq] at hl
 refine ⟨?_, fun v hv => ?_⟩
 ·show ((uriW m).ps.map toPV).length ≤ _
  rw [List.length_map]
  omega
 ·have e : getV ((uriW m).ps.map toPV) trNm = some v := hv
  rw [getV_map] at e
  cases hq : valueOfL trNm.data.toList (uriW m).ps with
  | none => rw [hq] at e; cases e
  | some y =>
    rw [hq] at e
    have e := Option.some.inj e
    have := par_val hU.ps hq
    rw [← e, mk_size, mk_list]
    exact ⟨by omega, this.2⟩
theorem reached_len {h : By} {p : Int} {b : By} (hh : h.length ≤ 8192) (hp : 0 ≤ p ∧ p ≤ 65535) : (reachedL h p b).length ≤ 9000 := by
 unfold reachedL
 have hb := portL_bounds (b := b) (p := p) (by omega) (by omega)
 have := dec_len _ hb.2
 simp
 omega
theorem size_of (s : ByteArray) : s.size = s.data.toList.length := by
 show s.data.size = _
 simp
theorem hHd_ok {m : Ms} (hR : Right m) (hs : isSingleB m.heads = true) (hr : m.resp = false) : (match routeS (hdsOf m) with | some r => r.u | none => toSU m.uri).host.size ≤ 100000000 := by
 have h := routeM hR hs
 have hz : (toSU (uriW m)).host.size ≤ 100000000 := by
  show (mk (uriW m).host).size ≤ _
  rw [mk_size]
  have := host_len (uriW_R hR hs hr).host
  omega
 cases hv : routeS (hdsOf m) with
 | none =>
   rw [hv] at h
   simp only [] at h ⊢
   rw [h]
   exact hz
 | some r =>
   rw [hv] at h
   simp only [] at h ⊢
   rw [h]
   exact hz
theorem src_req {m : Ms} (hR : Right m) (hs : isSingleB m.heads = true) (h1 : valueOfL rcvB (fHd 9 m.heads).ps = none) (h2 : valueOfL rptB (fHd 9 m.heads).ps = none) :
 (srcReq (hdsOf m) (toSU m.uri)).size ≤ 9000 ∧ (0 < nHd 9 m.heads → (srcReq (hdsOf m) (toSU m.uri)).data.toList = reachedL (fHd 9 m.heads).host (fHd 9 m.heads).port (securedL (uriW m) (byV m))) := by
 cases hv : viaS (hdsOf m) with
 | none =>
   have h0 := (viaS_none hR hv).1
   unfold srcReq
   rw [hv]
   simp only []
   refine ⟨?_, fun h => by omega⟩
   decide +kernel
 | some x =>
   obtain ⟨g, hg, ht, rfl, hf, hn⟩ := viaS_some hR hs hv
   have hG := viaR_of hg ht
   obtain ⟨e1, e2, e3⟩ := via_ps hf ht
   rw [e1] at h1 h2
   have h3 := (via_hp hG h1 h2 (securedL (uriW m) (byV m))).1
   have h4 : (srcReq (hdsOf m) (toSU m.uri)).data.toList = reachedL g.host g.port (securedL (uriW m) (byV m)) := by
    unfold srcReq
    rw [hv, tr_req hR hs]
    exact h3
   rw [e2, e3]
   refine ⟨?_, fun _ => h4⟩
   rw [size_of, h4]
   exact reached_len (host_len hG.host) hG.port
theorem where_req' (w : World) (hE : Env w) (cs : Array Value) (m : Ms) (h : MsR w cs m) (hsm : m.Small) (hR : Right m) (hs : isSingleB m.heads = true) (hresp : m.resp = false) (h1 : valueOfL rcvB (fHd 9 m.heads).ps = none) (h2 : valueOfL rptB (fHd 9 m.heads).ps = none) :
 Calls Tryz.prog 11 #[.agg cs] w fun e w' => ∃ p q r sl, e = .returned (.tuple #[p, q, r]) ∧ Bs w' p (securedL (uriW m) (byV m)) ∧ Bs w' q sl ∧ (0 < nHd 9 m.heads → sl = reachedL (fHd 9 m.heads).host (fHd 9 m.heads).port (securedL (uriW m) (byV m))) ∧ Bs w' r (reachedL (uriW m).host (uriW m).port (securedL (uriW m) (byV m))) ∧ Below w.heap.size w w' := by
 have hU := uriW_R hR hs hresp
 have hu : m.uri.raw = [] := by
  have := hR.start
  unfold startB at this
  rw [hresp] at this
  simp only [Bool.false_eq_true, if_false, Bool.and_eq_true] at this
  exact (uriR_of this.2).raw
 have hsl := sec_len (sc := (uriW m).scheme) (by_len hU.ps (byV_len hR hs))
 have ht := tr_req hR hs
 have hd := dst_req hR hs hresp
 obtain ⟨s1, s2⟩ := src_req hR hs h1 h2
 refine (where_req w hE cs m h hsm (good_of hR hsm) hresp (stray_of hR hsm) (src_ok hR hs h1 h2) ?_ hu (tr_ok hR hs hresp) (hHd_ok hR hs hresp) (by omega) ?_).mono ?_
 ·rw [ht, mk_size]
  show (secL _ _).length ≤ _
  omega
 ·rw [size_of, hd]
  have := reached_len (h := (uriW m).host) (b := securedL (uriW m) (byV m)) (host_len hU.host) hU.port
  omega
 ·rintro e w' ⟨p, q, r, rfl, hp, hq, hr, hb⟩
  rw [ht, mk_list] at hp
  rw [hd] at hr
  exact ⟨p, q, r, _, rfl, hp, hq, s2, hr, hb⟩
theorem dst_res {m : Ms} (hR : Right m) (hs : isSingleB m.heads = true) (h1 : valueOfL rcvB (fHd 9 m.heads).ps = none) (h2 : valueOfL rptB (fHd 9 m.heads).ps = none) :
 (dstRes (hdsOf m)).size ≤ 9000 ∧ (dstRes (hdsOf m)).data.toList = (if 0 < nHd 9 m.heads then reachedL (fHd 9 m.heads).host (fHd 9 m.heads).port (byV m) else []) := by
 cases hv : viaS (hdsOf m) with
 | none =>
   have h0 := (viaS_none hR hv).1
   unfold dstRes
   rw [hv, if_neg (by omega)]
   exact ⟨by decide, rfl⟩
 | some x =>
   have htv := tr_via hR hs
   rw [hv] at htv
   obtain ⟨g, hg, ht, rfl, hf, hn⟩ := viaS_some hR hs hv
   have hG := viaR_of hg ht
   obtain ⟨e1, e2, e3⟩ := via_ps hf ht
   rw [e1] at h1 h2
   have h3 := (via_hp hG h1 h2 (byV m)).1
   have h4 : (dstRes (hdsOf m)).data.toList = reachedL g.host g.port (byV m) := by
    unfold dstRes
    rw [hv]
    simp only []
    rw [htv]
    exact h3
   rw [if_pos (by omega), e2, e3]
   refine ⟨?_, h4⟩
   rw [size_of, h4]
   exact reached_len (host_len hG.host) hG.port
theorem where_res' (w : World) (hE : Env w) (cs : Array Value) (m : Ms) (h : MsR w cs m) (hsm : m.Small) (hR : Right m) (hs : isSingleB m.heads = true) (hresp : m.resp = true) (h1 : valueOfL rcvB (fHd 9 m.heads).ps = none) (h2 : valueOfL rptB (fHd 9 m.heads).ps = none) :
 Calls Tryz.prog 11 #[.agg cs] w fun e w' => ∃ p q r, e = .returned (.tuple #[p, q, r]) ∧ Bs w' p (byV m) ∧ Bs w' q [] ∧ Bs w' r (if 0 < nHd 9 m.heads then reachedL (fHd 9 m.heads).host (fHd 9 m.heads).port (byV m) else []) ∧ Below w.heap.size w w' := by
 have ht := tr_via hR hs
 obtain ⟨s1, s2⟩ := dst_res hR hs h1 h2
 have hbl := byV_len hR hs
 refine (where_res w hE cs m h hsm (good_of hR hsm) hresp (stray_of hR hsm) (src_ok hR hs h1 h2) ?_ (by decide) (by omega)).mono ?_
 ·rw [ht, mk_size]; omega
 ·rintro e w' ⟨p, q, r, rfl, hp, hq, hr, hb⟩
  rw [ht, mk_list] at hp
  rw [s2] at hr
  exact ⟨p, q, r, rfl, hp, hq, hr, hb⟩
theorem def_small : (default : Hd).uri.Small :=
 ⟨by decide, by decide, by decide, by decide, by decide, ⟨by decide, fun i hi => absurd hi (Nat.not_lt_zero i)⟩, ⟨by decide, fun i hi => absurd hi (Nat.not_lt_zero i)⟩⟩
theorem fst_small {l : List Hd} (t : Int) (h : SmallHds l) : (fHd t l).host.length ≤ 1048576 ∧ (fHd t l).tr.length ≤ 1048576 ∧ (fHd t l).uri.Small := by
 obtain ⟨h1, h2⟩ := h
 have d1 : (default : Hd).host.length ≤ 1048576 := by decide
 have d2 : (default : Hd).tr.length ≤ 1048576 := by decide
 have d3 := def_small
 induction l with
 | nil => exact ⟨d1, d2, d3⟩
 | cons x r ih =>
   unfold fHd
   split
   ·have hx := h2 0 (by simp)
    have hx : x.Small := hx
    unfold plainH
    repeat' split
    all_goals first | exact ⟨d1, d2, d3⟩ | exact ⟨d1, d2, hx.uri⟩ | exact ⟨hx.host, hx.tr, d3⟩
   ·exact ih (by simp at h1; omega) fun i hi => h2 (i + 1) (by simpa using hi)
theorem bt5 {w a b : World} (h : Below w.heap.size w a) (k : Below a.heap.size a b) : Below w.heap.size w b := below_then h h.size k
theorem bta5 {w a : World} (h : Below w.heap.size w a) (o : Obj) : Below w.heap.size w (a.alloc o) := h.alloc h.size o
theorem zzFits1_c (cs : Array Value) (m : Ms) (w : World) (h : MsR w cs m) (hs : m.Small) :
 Calls Tryz.prog 4 #[.agg cs] w fun e w' => e = .returned (.bool true) ∧ Below w.heap.size w w' := by
 obtain ⟨s1, s2, s3, s4, s5, s6⟩ := hs
 have HR := Lib.hid h
 obtain ⟨hsz, h0, ⟨v1, e1, r1⟩, hu, h12, ⟨v13, e13, r13⟩, ⟨v14, e14, r14⟩, ⟨v15, e15, r15⟩, ⟨v16, e16, r16⟩, h17, h18, _, _⟩ := h
 have HZ := Lib.hid hsz; clear hsz
 obtain ⟨a1, b1, rfl⟩ := r1.shape
 obtain ⟨a13, b13, rfl⟩ := r13.shape
 obtain ⟨a14, b14, rfl⟩ := r14.shape
 obtain ⟨a15, b15, rfl⟩ := r15.shape
 obtain ⟨a16, b16, rfl⟩ := r16.shape
 clear hu
 go_enter func4, ntmps4
 go_wp2_with (refine wpList_load_agg (o := ⟨_, .load 25 _, _, _, _, _⟩) rfl _ _ rfl (w.heap.size) (2) rfl (cs.extract 2 12) _ underlying25 rfl (infoUr.trans (congrArg some (Eq.symm (HR.out.uri.size)))) ((cells_new w cs _ _).part 2 12 (by rw [HZ.out]; omega)) ?_)
 refine (zzFits2_c _ m.uri _ (HR.out.uri.alloc _) s2).mono ?_
 rintro e w1 ⟨rfl, hb1⟩
 obtain ⟨hc, hf⟩ := bcell hb1
 go_wp2_with fail
 refine (zzFits5_c _ m.heads _ ((r15.alloc _).grow hb1) s5).mono ?_
 rintro e w2 ⟨rfl, hb2⟩
 have hsz := hb1.size
 simp at hsz
 have hc2 : ∀ o, w2.cell? ⟨w.heap.size, o, none⟩ = w1.cell? ⟨w.heap.size, o, none⟩ := fun o => hb2.cell (p := ⟨w.heap.size, o, none⟩) (by show w.heap.size < _; omega)
 go_wp2_with fail
 go_ret
 exact ⟨rfl, bt5 (bt5 (below_alloc _ _) hb1) hb2⟩
end Go.Proofs.YtfcllhdhfenmcaaGreatDoor
