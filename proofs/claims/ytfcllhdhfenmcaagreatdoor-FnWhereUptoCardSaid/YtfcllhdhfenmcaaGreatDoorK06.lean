/- Part 6 of the proof: laws and walks (merged by a program). -/
import Derived.Test.YtfcllhdhfenmcaaGreatDoorK01
import Derived.Test.YtfcllhdhfenmcaaGreatDoorK02
import Derived.Test.YtfcllhdhfenmcaaGreatDoorK03
import Derived.Test.YtfcllhdhfenmcaaGreatDoorK04
import Derived.Test.YtfcllhdhfenmcaaGreatDoorK05
set_option linter.all false
set_option maxHeartbeats 8000000
set_option maxRecDepth 100000
namespace Go.Proofs.YtfcllhdhfenmcaaGreatDoor
def addressed (t : Int) : Bool := decide (t = 1 ∨ t = 2 ∨ t = 3 ∨ t = 14)
def routed (t : Int) : Bool := decide (t = 11 ∨ t = 12 ∨ t = 13)
def numbered (t : Int) : Bool := decide (t = 6 ∨ t = 7 ∨ t = 8)
end Go.Proofs.YtfcllhdhfenmcaaGreatDoor
namespace Go.Proofs.YtfcllhdhfenmcaaGreatDoor
open Go.RowKit Go.Proofs.Tryz
def SIPB : By := [83, 73, 80]
def v20B : By := [50, 46, 48]
theorem isAddressed_c (t : Int) (w : World) : Calls Tryz.prog 42 #[.int .i64 t] w fun e w' => e = .returned (.bool (addressed t)) ∧ w = w' := by
 go_enter func42, ntmps42
 go_wp2
 all_goals (go_ret; refine ⟨ret_bool (Bool.eq_iff_iff.2 ?_), rfl⟩; simp [addressed]; try omega)
theorem isRouted_c (t : Int) (w : World) : Calls Tryz.prog 44 #[.int .i64 t] w fun e w' => e = .returned (.bool (routed t)) ∧ w = w' := by
 go_enter func44, ntmps44
 go_wp2
 all_goals (go_ret; refine ⟨ret_bool (Bool.eq_iff_iff.2 ?_), rfl⟩; simp [routed]; try omega)
theorem isNumbered_c (t : Int) (w : World) : Calls Tryz.prog 45 #[.int .i64 t] w fun e w' => e = .returned (.bool (numbered t)) ∧ w = w' := by
 go_enter func45, ntmps45
 go_wp2
 all_goals (go_ret; refine ⟨ret_bool (Bool.eq_iff_iff.2 ?_), rfl⟩; simp [numbered]; try omega)
def isHeadB (h : Hd) : Bool :=
 if h.t = 0 then isOwnB h.name && isLineB h.text
 else if addressed h.t then isShownB h.disp && isUriB h.uri && isParamsB h.ps false
 else if routed h.t then isUriB h.uri
 else if h.t = 6 then decide (h.num < 256)
 else if numbered h.t then decide (h.num ≤ 2147483647)
 else if h.t = 4 then isWordB h.text
 else if h.t = 10 then isLineB h.text
 else if h.t = 5 then isWordB h.text && decide (h.num ≤ 2147483647)
 else if h.t = 9 then equalB h.proto SIPB && equalB h.ver v20B && isWordB h.tr && isHostB h.host && decide (0 ≤ h.port ∧ h.port ≤ 65535) && isParamsB h.ps false
 else false
theorem zzFits6_c (cs : Array Value) (x : Hd) (w : World) (h : HdR w cs x) (hs : x.Small) :
 Calls Tryz.prog 35 #[.agg cs] w fun e w' => e = .returned (.bool true) ∧ Below w.heap.size w w' := by
 obtain ⟨s1, s2, s3, s4, s5, s6, s7, s8, s9⟩ := hs
 have HR := Lib.hid h
 obtain ⟨hsz, h0, ⟨v1, e1, r1⟩, ⟨v2, e2, r2⟩, ⟨v3, e3, r3⟩, hu, ⟨v14, e14, r14⟩, h15, ⟨v16, e16, r16⟩, ⟨v17, e17, r17⟩, ⟨v18, e18, r18⟩, ⟨v19, e19, r19⟩, h20, _, _, _, _, _, _⟩ := h
 have HZ := Lib.hid hsz; clear hsz
 obtain ⟨a1, b1, rfl⟩ := r1.shape
 obtain ⟨a2, b2, rfl⟩ := r2.shape
 obtain ⟨a3, b3, rfl⟩ := r3.shape
 obtain ⟨a14, b14, rfl⟩ := r14.shape
 obtain ⟨a16, b16, rfl⟩ := r16.shape
 obtain ⟨a17, b17, rfl⟩ := r17.shape
 obtain ⟨a18, b18, rfl⟩ := r18.shape
 obtain ⟨a19, b19, rfl⟩ := r19.shape
 have hul : (cs.extract 4 14).size = 10 := by rw [Array.size_extract, HZ.out]; rfl
 have HU := Lib.hid hul; clear hul
 go_enter func35, ntmps35
 go_wp2_with (refine wpList_load_agg (o := ⟨_, .load 25 _, _, _, _, _⟩) rfl _ _ rfl w.heap.size 4 rfl (cs.extract 4 14) _ underlying25 rfl (infoUr.trans (congrArg some HU.out.symm)) ((cells_new w cs _ _).part 4 14 (by rw [HZ.out]; omega)) ?_)
 refine (zzFits2_c _ x.uri _ (HR.out.uri.alloc _) s4).mono ?_
 rintro e w1 ⟨rfl, hb1⟩
 obtain ⟨hc, hf⟩ := bcell hb1
 go_wp2_with fail
 refine (zzFits3_c _ x.ps _ ((r14.alloc _).grow hb1) s5).mono ?_
 rintro e w2 ⟨rfl, hb2⟩
 have hsz := hb1.size
 simp at hsz
 have hc2 : ∀ o, w2.cell? ⟨w.heap.size, o, none⟩ = w1.cell? ⟨w.heap.size, o, none⟩ := fun o => hb2.cell (p := ⟨w.heap.size, o, none⟩) (by show w.heap.size < _; omega)
 go_wp2_with fail
 go_ret
 exact ⟨rfl, below_then (below_then (below_alloc _ _) (by simp) hb1) (by omega) hb2⟩
theorem zzFits5_c (v : Value) (l : List Hd) (w : World) (h : Hds w v l) (hl : SmallHds l) :
 Calls Tryz.prog 16 #[v] w fun e w' => e = .returned (.bool true) ∧ Below w.heap.size w w' := by
 obtain ⟨hl, hall⟩ := hl
 obtain ⟨A, cp, rfl, h1, h2, h3⟩ := h
 have H3 := Lib.hid h3; clear h3
 have HA := Lib.hid hall; clear hall
 go_enter func16, ntmps16
 go_wp2
 go_loopw [10] (fun v wr => ∃ k : Nat, k ≤ l.length ∧ v = .int .i64 k ∧ Below w.heap.size w wr) (fun v _ => l.length - (intOf v).toNat)
 case atStart => exact ⟨0, Nat.zero_le _, rfl, Below.refl _ _⟩
 case round =>
  obtain ⟨k, hk, rfl, hB⟩ := hrel
  by_cases hlt : k < l.length
  ·obtain ⟨b, o, rfl, hl0, hc⟩ := H3.out (by omega)
   obtain ⟨cs, q0, r0⟩ := hc k hlt
   have hq := Lib.hid (q0.grow hl0 hB)
   have hr := Lib.hid (r0.grow hB)
   clear hc q0 r0
   go_wp2_with (first
    | (refine wpList_load_agg (o := ⟨_, .load 34 _, _, _, _, _⟩) rfl _ _ rfl b (o + k * 21) rfl cs _ underlying34 rfl (infoHd.trans (congrArg some hr.out.size.symm)) hq.out ?_)
    | (refine wpList_store_agg (o := ⟨_, .store 34 _ _, _, _, _, _⟩) rfl _ _ _ rfl _ cs rfl rfl (infoHd.trans (congrArg some hr.out.size.symm)) hr.out.size.symm hr.out.one ?_)
    | (refine wpList_load_agg (o := ⟨_, .load 34 _, _, _, _, _⟩) rfl _ _ rfl wr.heap.size 0 rfl cs _ underlying34 rfl (infoHd.trans (congrArg some hr.out.size.symm)) (cells_new wr cs _ _) ?_)
    | (go_at_call 35; refine (zzFits6_c cs (hdAt l k) _ (hr.out.alloc _) (HA.out k hlt)).mono ?_; rintro e w1 ⟨rfl, hb1⟩))
   go_roundw
   case rel => exact ⟨k + 1, by omega, by go_num, below_then (hB.alloc hB.size _) (by have := hB.size; simp; omega) hb1⟩
   case measure => simp [intOf]; omega
  ·go_wp2
   go_ret
   exact ⟨rfl, hB⟩
end Go.Proofs.YtfcllhdhfenmcaaGreatDoor
