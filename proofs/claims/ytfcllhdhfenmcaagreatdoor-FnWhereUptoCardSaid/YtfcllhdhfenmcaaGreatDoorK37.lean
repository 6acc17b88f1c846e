/- Part 37 of the proof: laws and walks (merged by a program). -/
import Derived.Test.YtfcllhdhfenmcaaGreatDoorK01
import Derived.Test.YtfcllhdhfenmcaaGreatDoorK14
import Derived.Test.YtfcllhdhfenmcaaGreatDoorK35
import Derived.Test.YtfcllhdhfenmcaaGreatDoorK36
import Derived.Test.YtfcllhdhfenmcaaGreatDoorCards
import Derived.Test.YtfcllhdhfenmcaaGreatDoorTie
import Derived.WalkKit
import Derived.ProofKit
import Derived.OpenShut
import Derived.Deep.DeepHandedRow
import Derived.Deep.DeepWitnessRowRef
set_option linter.all false
set_option maxHeartbeats 8000000
set_option maxRecDepth 100000
namespace Go.Proofs.YtfcllhdhfenmcaaGreatDoor.fnWhere
open Go.ChangeShapes Go.WideShapes Go.ChangeAt Go.RowKit
theorem own : ownKnob Tryz.prog.godebug = none := by kernel_rfl
theorem laidOut : laidOutB Tryz.prog = true := by kernel_rfl
theorem post_below {H : Type} {enc : TypeId × Value → H} {P : Program} {f : Func} {s : ChangeSpec} {apart fresh handsOn again : Bool} {W W' : World} {args : Array Value} {v : Value} {ds gs : List (DataW H)} {before pa pv : List MemPlace}
 (hW : DataW.Whole enc P f.params.toList s.vars apart W args.toList ds gs before)
 (hres : ∀ (b : Nat) (sp : Nat → Bool) (hd : Bool), DataW.TrodAll enc P W' b sp hd f.resultTypes.toList (v.resultList f.resultTypes.size) (s.fn H (ds ++ gs)).results [])
 (hargs : ∀ sp : Nat → Bool, (∀ p ∈ before, sp p.block = true) → DataW.TrodAll enc P W' 0 sp true f.params.toList args.toList (s.fn H (ds ++ gs)).args pa)
 (hvars : ∀ sp : Nat → Bool, (∀ p ∈ before, sp p.block = true) → DataW.TrodVars enc P W' sp s.vars (s.fn H (ds ++ gs)).vars pv)
 (hps : before = pa ++ pv) (hb : Below W.heap.size W W')
 (hok : ∀ (j : Nat) (t : TypeId) (r : Value), f.resultTypes[j]? = some t → (v.resultList f.resultTypes.size)[j]? = some r → Value.okWide P W' .any 0 t r) :
 s.post enc P f apart fresh handsOn again W args v W' := by
 have hold : ∀ p ∈ before, (fun b => decide (b < W.heap.size)) p.block = true := fun p hp => by simpa using hW.lt p hp
 have hlt : ∀ p ∈ before, p.block < W.heap.size := fun p hp => hW.lt p hp
 have hk : W.keptBut W' (· ∈ before) := ⟨hb.os, hb.output, fun i hi => by
  rw [hb.block i hi]
  cases hq : W.heap[i]? with
  | none => rfl
  | some o => cases o <;> first | exact ⟨rfl, rfl, rfl, fun _ _ => rfl⟩ | exact .inr ⟨rfl, rfl⟩ | rfl⟩
 refine ⟨ds, gs, before, [], pa, pv, hW, hres _ _ _, hargs _ hold, hvars _ hold, World.keptBut_mono (fun p hp => ⟨hp, ?_⟩) hk, fun _ => ?_⟩
 ·rw [hps, List.mem_append] at hp
  exact Or.inr hp
 ·obtain ⟨_, _, _, _, _, hz, hn⟩ := hW
  refine ⟨hok, _, _, ([] ++ pa) ++ pv, ⟨[] ++ pa, pv, trodAll_append (hargs _ (fun _ _ => rfl)) (hres _ _ _), hvars _ (fun _ _ => rfl), rfl, ?_, ?_⟩, ?_⟩
  ·intro b off hp
   have hp' : MemPlace.cell b off ∈ before := by rw [hps]; simpa using hp
   have h1 := hz b off hp'
   have h2 := hb.block b (hlt _ hp')
   unfold World.frozen? at h1 ⊢
   simp only [] at h1 ⊢
   rw [h2]
   exact h1
  ·intro ha
   have := hn ha
   rw [hps] at this
   simpa using this
  ·intro p hp _
   rw [hps]
   simpa using hp
theorem contract (H : Type) (enc : TypeId × Value → H) (W : World) (base : Nat) (args : Array Value) (ds gs : List (DataW H)) (before : List MemPlace)
 (hval : ∀ (j : Nat) t v, Tryz.f3.params[j]? = some t → args[j]? = some v → Value.okWide Tryz.prog W .any base t v)
 (hW : DataW.Whole enc Tryz.prog Tryz.f3.params.toList Rows.fnWhereSpec.vars false W args.toList ds gs before) (hk : Rows.uptoSmall H (ds ++ gs) = true) (hL : laidMetH Tryz.prog Rows.fnWhereUptoRow.laid W) :
 Calls Tryz.prog 3 args W fun e W' => ∃ v, e = .returned v ∧ Rows.fnWhereSpec.post enc Tryz.prog Tryz.f3 false true false false W args v W' := by
 have hW' := hW
 obtain ⟨p, q, hA0, hV, rfl, hfz, hnd⟩ := hW
 have hA : DataW.TrodAll enc Tryz.prog W 0 (fun _ => true) true Tryz.f3.params.toList args.toList ds p := hA0
 rw [Tryz.params3] at hA hval
 obtain ⟨v0, vs0, d0, ds0, p0, q0, hargs, rfl, rfl, h0, r0⟩ := trodAll_cons hA
 obtain ⟨rfl, rfl, rfl⟩ := trodAll_nil r0
 obtain rfl : args = #[v0] := by cases args; simp_all
 obtain ⟨rfl, rfl⟩ := trodVars_none hV
 obtain ⟨cs, rfl, _⟩ := okWide_struct Tryz.underlying28 (hval 0 28 v0 rfl rfl)
 have h0k := h0
 obtain ⟨fuel, hf⟩ := h0
 simp only [List.append_nil] at hW' hk
 have hbd : Rows.uptoBulkAll [d0] ≤ 1048576 := by
  have h := hk
  unfold Rows.uptoSmall at h
  exact of_decide_eq_true h
 have hd0 : Rows.uptoBulk d0 ≤ 1048576 := Nat.le_trans (bulk_part (by simp)) hbd
 obtain ⟨m, hm, hs⟩ := read_ms hf hd0
 have hm : MsR W cs m := hm
 have hlt : ∀ x ∈ p0, x.block < W.heap.size := fun x hx => by simpa using hW'.lt x (by simpa using hx)
 refine (fnWhere_c W (env_of W hL) cs m hm hs).mono fun e W' ⟨he, hb⟩ => ?_
 subst he
 exact ⟨_, rfl, post_below (pa := p0) (pv := []) hW' (fun _ _ _ => trodAll_cons_mk (shut_bool Tryz.underlying4 _) trodAll_mk0)
  (fun sp hsp => ⟨p0, [], WideElems.Trod_stays laidOut (by kernel_rfl) (of_decide_eq_true (by kernel_rfl)) h0k (fun x hx => hb.same (hlt x hx)) (fun x hx => hsp x (by simpa using hx)), rfl, by simp⟩) (fun _ _ => rfl) (by simp)
  hb (ok_one (by kernel_rfl) rfl (okWide_bool_mk Tryz.underlying4 _))⟩
end Go.Proofs.YtfcllhdhfenmcaaGreatDoor.fnWhere
