/- Part 20 of the proof: laws and walks (merged by a program). -/
import Derived.Test.YtfcllhdhfenmcaaGreatDoorK01
import Derived.Test.YtfcllhdhfenmcaaGreatDoorK15
import Derived.Test.YtfcllhdhfenmcaaGreatDoorK16
import Derived.Test.YtfcllhdhfenmcaaGreatDoorK19
set_option linter.all false
set_option maxHeartbeats 8000000
set_option maxRecDepth 100000
namespace Go.Proofs.YtfcllhdhfenmcaaGreatDoor
open Go.RowKit Go.Proofs.Tryz
def AddrAll (w0 : World) : Prop := ∀ u : Ur, u.Small → AddrOK w0 u
def GoodHd (x : Hd) : Prop := addressed x.t = true ∨ routed x.t = true → x.uri.raw = []
theorem toSHu_good {x : Hd} (h : GoodHd x) {u : SU} (hu : x.uri.raw = [] → u = toSU x.uri) : toSHu x u = toSH x := by
 unfold toSH toSHu
 by_cases h1 : addressed x.t = true
 ·rw [if_pos h1, if_pos h1, hu (h (.inl h1))]
 ·rw [if_neg h1, if_neg h1]
  by_cases h2 : routed x.t = true
  ·rw [if_pos h2, if_pos h2, hu (h (.inr h2))]
  ·rw [if_neg h2, if_neg h2]
theorem headerG_c {w0 : World} (hA : AddrAll w0) (cs : Array Value) (x : Hd) (w : World) (hw : Below w0.heap.size w0 w) (h : HdR w cs x) (hs : x.Small) (hg : GoodHd x) :
 Calls Tryz.prog 50 #[.agg cs] w fun e w' => ∃ v, e = .returned v ∧ HObj w' v (toSH x) ∧ Below w.heap.size w w' :=
 (header_c cs x w h ((hA _ hs.uri).mono hw) hs.ps.len).mono fun _ _ ⟨v, u, h1, h2, h3, h4⟩ => ⟨v, h1, by rw [← toSHu_good hg h3]; exact h2, h4⟩
structure MsC (w : World) (b : Nat) (m : Ms) (v1 v13 v14 v16 : Value) (A : Option Addr) (nH cH : Nat) : Prop where
 lt : b < w.heap.size
 resp : w.cell? ⟨b, 0, none⟩ = some (.bool m.resp)
 method : w.cell? ⟨b, 1, none⟩ = some v1
 code : w.cell? ⟨b, 12, none⟩ = some (.int .i64 m.code)
 reason : w.cell? ⟨b, 13, none⟩ = some v13
 ver : w.cell? ⟨b, 14, none⟩ = some v14
 heads : w.cell? ⟨b, 15, none⟩ = some (.slice A nH cH)
 body : w.cell? ⟨b, 16, none⟩ = some v16
 hasBody : w.cell? ⟨b, 17, none⟩ = some (.bool m.hasBody)
 compact : w.cell? ⟨b, 18, none⟩ = some (.bool m.compact)
 rmethod : Bs w v1 m.method
 rreason : Bs w v13 m.reason
 rver : Bs w v14 m.ver
 rbody : Bs w v16 m.body
theorem msC (cs : Array Value) (m : Ms) (w : World) (h : MsR w cs m) : ∃ v1 v13 v14 v16 A nH cH, nH = m.heads.length ∧ (0 < nH → ∃ g o, A = some ⟨g, o, none⟩ ∧ g < w.heap.size ∧ ∀ i, i < nH → ∃ hcs, CellsAt w g (o + i * 21) hcs ∧ HdR w hcs (hdAt m.heads i)) ∧ nH ≤ 9223372036854775807 ∧ (∀ wr, Below (w.heap.size + 1) (w.alloc (.cells cs 28)) wr →
 MsC wr w.heap.size m v1 v13 v14 v16 A nH cH ∧ UrR wr (cs.extract 2 12) m.uri ∧ CellsAt wr w.heap.size 2 (cs.extract 2 12) ∧ Below w.heap.size w wr) := by
 obtain ⟨v1, e1, r1⟩ := h.method
 obtain ⟨v13, e13, r13⟩ := h.reason
 obtain ⟨v14, e14, r14⟩ := h.ver
 obtain ⟨v16, e16, r16⟩ := h.body
 obtain ⟨v15, e15, A, c, rfl, hc1, hc2, hc3⟩ := h.heads
 refine ⟨v1, v13, v14, v16, A, m.heads.length, c, rfl, hc3, by omega, fun wr hB => ?_⟩
 have hb : Below w.heap.size w wr := (below_alloc w _).trans (hB.mono (by omega))
 have hsz := hB.size
 simp only [World.size_alloc] at hsz
 have q : ∀ j v, cs[j]? = some v → wr.cell? ⟨w.heap.size, j, none⟩ = some v := fun j v hv => by
  rw [hB.cell (p := ⟨w.heap.size, j, none⟩) (by show w.heap.size < _; omega)]
  simpa using cells_new w cs 28 (0, 0) j v hv
 have hq : CellsAt wr w.heap.size 0 cs := fun j v hv => by rw [Nat.zero_add]; exact q j v hv
 exact ⟨⟨by omega, q _ _ h.resp, q _ _ e1, q _ _ h.code, q _ _ e13, q _ _ e14, q _ _ e15, q _ _ e16, q _ _ h.hasBody, q _ _ h.compact, r1.grow hb, r13.grow hb, r14.grow hb, r16.grow hb⟩, h.uri.grow hb, by simpa using hq.part 2 12 (by rw [h.size]; omega), hb⟩
theorem step_append_body {ops : Array Oper} {o : Oper} {a : Act} {W : World} {K : Act → World → Prop} {Q : Exit → Act → World → Prop} {E : Prop} (hgd : o.guard = none) (s x : Operand)
 (ho : o.op = .call { callee := .builtin .append, args := #[s, x], argTypes := #[22, 22] })
 (base b : Nat) (y : Value) (m : By) (hs : a.eval s = .slice (some ⟨b, 0, none⟩) 0 0) (hx : a.eval x = y) (hb0 : Blk W b #[] 5) (HY : Bs W y m) (hbase : base ≤ b) (hlen : m.length ≤ 140737488355328)
 (h : ∀ ad c W1, Bs W1 (.slice (some ad) m.length c) m → Below base W W1 → K (a.put o.dst (.slice (some ad) m.length c)) W1) : if Region.wanted o (yielded ops a.tmps) = true then Oper.wp Tryz.prog o a W K Q else E := by
 have hw : Region.wanted o (yielded ops a.tmps) = true := by simp [Region.wanted, hgd]
 rw [if_pos hw]
 obtain ⟨i0, hi, hzz⟩ := Option.map_eq_some_iff.1 infoU8
 simp only [Prod.mk.injEq] at hzz
 obtain ⟨hz0, hz1, hz2⟩ := hzz
 have hlt := hb0.lt
 have HO : W.ownsRow base 5 1 (.slice (some ⟨b, 0, none⟩) 0 0) 0 [] := ⟨rfl, .inr ⟨b, 0, #[], rfl, hbase, hb0, Nat.le_refl _, Nat.zero_le _, rfl, rfl⟩⟩
 have fin : ∀ v1 W1, W1.ownsRow base 5 1 v1 (0 + m.length) ([] ++ bvals m) → Below base W W1 → v1 ≠ .slice none 0 0 → K (a.put o.dst v1) W1 := by
  intro v1 W1 hown hB hne
  have hO : Ow base W1 v1 m := by unfold Ow; simpa using hown
  have hbs := hO.bs
  obtain ⟨_, ⟨rfl, _⟩ | ⟨g, cap, cur, rfl, _⟩⟩ := hown
  ·exact absurd rfl hne
  ·rw [Nat.zero_add] at hbs ⊢
   exact h _ _ _ hbs hB
 have HY' := HY
 obtain ⟨A, c, rfl, h1, h2, h3⟩ := HY
 rcases Nat.eq_zero_or_pos m.length with hm | hm
 ·have : m = [] := List.eq_nil_of_length_eq_zero hm
  subst this
  cases A with
  | none =>
    have hrun := run_append_none (P := Tryz.prog) (w := W) base 22 o.type 5 i0 1 underlying22 hi _ 0 [] HO c
    have hx' : a.eval x = .slice none 0 c := hx
    unfold Oper.wp
    simp [execOp, ho, resolve, invoke, builtin, hs, hx', hrun, Result.andThen]
    exact fin _ W (by simpa [bvals] using HO) (Below.refl _ _) (by simp)
  | some ad =>
    refine wp_append_own W s x 22 ho base 5 i0 (.int .u8 0) 1 1 underlying22 hi hz0 hz1 hz2 rfl (by decide) _ 0 [] hs HO ad 0 c [] hx rfl (by simp) (by simp) (by unfold maxLen; omega) (by omega) (by omega) ?_
    intro v1 W1 hown hg hne
    exact fin v1 W1 (by simpa [bvals] using hown) ((Below.refl base W).grown hg (by omega) (fun k hk => by simp [Value.ownBlock] at hk; omega)) (fun e => by simp at hne; exact hne e)
 ·obtain ⟨g, off, rfl, hb, hc⟩ := h3 hm
  refine wp_append_own W s x 22 ho base 5 i0 (.int .u8 0) 1 1 underlying22 hi hz0 hz1 hz2 rfl (by decide) _ 0 [] hs HO ⟨g, off, none⟩ m.length c (bvals m) hx (by simp [bvals]) ?_ ?_ (by unfold maxLen; omega) (by omega) (by omega) ?_
  ·intro j u hu
   have hj : j < m.length := by
    have := (List.getElem?_eq_some_iff.1 hu).1
    simpa [bvals] using this
   rw [add_none, hc j hj]
   rw [bvals_get m j hj] at hu
   exact hu
  ·intro u hu
   obtain ⟨c', _, rfl⟩ := List.mem_map.1 hu
   rfl
  ·intro v1 W1 hown hg hne
   exact fin v1 W1 hown ((Below.refl base W).grown hg (by omega) (fun k hk => by simp [Value.ownBlock] at hk; omega)) (fun e => by simp at hne; exact hne e)
def clenSH (n : Nat) : SH := { (default : SH) with t := 8, n := n }
structure GoodMs (m : Ms) : Prop where
 hasBody : m.hasBody = true
 verLen : m.ver.length = 7
 heads : ∀ i, i < m.heads.length → GoodHd (hdAt m.heads i)
 nolen : refT (m.heads.map toSH) 8 = none
 none1 : NoneOf (m.heads.map toSH) ⟨#[99, 111, 110, 116, 101, 110, 116, 45, 108, 101, 110, 103, 116, 104]⟩
 none2 : NoneOf (m.heads.map toSH) ⟨#[108]⟩
theorem ro_new {base : Nat} {w : World} {bo : Nat} (h : Blk w bo nil10 81) (hb : base ≤ bo) : Ro base w (.slice (some ⟨bo, 0, none⟩) 0 10) [] :=
 ⟨rfl, .inr ⟨bo, 10, nil10, rfl, hb, h, Nat.zero_le _, by unfold maxLen; omega, rfl, rfl⟩⟩
theorem HsAt.mono {base base' : Nat} {w : World} {b : Nat} {T : TypeId} {vals : List Value} {L : List SH} {cp : Bool} {rest : List Value} (h : HsAt base w b T vals L cp rest) (hb : base' ≤ base) : HsAt base' w b T vals L cp rest := by
 obtain ⟨ov, h1, h2⟩ := h.blk
 refine ⟨⟨ov, h1, ?_⟩, h.len, h.obj, h.ty, Nat.le_trans hb h.lo⟩
 obtain ⟨hl, hr | ⟨g, cap, cur, rfl, hb', r⟩⟩ := h2
 ·exact ⟨hl, .inl hr⟩
 ·exact ⟨hl, .inr ⟨g, cap, cur, rfl, Nat.le_trans hb hb', r⟩⟩
theorem take_toSH (l : List Hd) (k : Nat) (h : k < l.length) : (l.take (k + 1)).map toSH = (l.take k).map toSH ++ [toSH (hdAt l k)] := by
 rw [List.take_succ_eq_append_getElem h, List.map_append, hdAt_get _ _ h]; rfl
end Go.Proofs.YtfcllhdhfenmcaaGreatDoor
