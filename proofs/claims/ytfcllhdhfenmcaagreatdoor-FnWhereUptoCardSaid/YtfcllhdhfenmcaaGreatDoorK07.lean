/- Part 7 of the proof: laws and walks (merged by a program). -/
import Derived.Test.YtfcllhdhfenmcaaGreatDoorK01
import Derived.Test.YtfcllhdhfenmcaaGreatDoorK06
set_option linter.all false
set_option maxHeartbeats 8000000
set_option maxRecDepth 100000
namespace Go.Proofs.YtfcllhdhfenmcaaGreatDoor
open Go.RowKit Go.Proofs.Tryz
theorem isHead_t0 (cs : Array Value) (x : Hd) (w : World) (h : HdR w cs x) (ht : x.t = 0) :
 Calls Tryz.prog 20 #[.agg cs] w fun e w' => e = .returned (.bool (isHeadB x)) ∧ Below w.heap.size w w' := by
 have HE : Hid (isHeadB x = (isOwnB x.name && isLineB x.text)) := by unfold Hid isHeadB; rw [ht]; rfl
 have q1 : addressed 0 = false := by decide
 have q2 : routed 0 = false := by decide
 have q3 : numbered 0 = false := by decide
 have HR := Lib.hid h
 obtain ⟨hsz, e0, ⟨v1, e1, r1⟩, ⟨v2, e2, r2⟩, ⟨v3, e3, r3⟩, hu, ⟨v14, e14, r14⟩, e15, ⟨v16, e16, r16⟩, ⟨v17, e17, r17⟩, ⟨v18, e18, r18⟩, ⟨v19, e19, r19⟩, e20, _, _, nlo, nhi, plo, phi⟩ := h
 have HZ := Lib.hid hsz; clear hsz
 obtain ⟨a1, b1, rfl⟩ := r1.shape
 obtain ⟨a2, b2, rfl⟩ := r2.shape
 obtain ⟨a3, b3, rfl⟩ := r3.shape
 obtain ⟨a14, b14, rfl⟩ := r14.shape
 obtain ⟨a16, b16, rfl⟩ := r16.shape
 obtain ⟨a17, b17, rfl⟩ := r17.shape
 obtain ⟨a18, b18, rfl⟩ := r18.shape
 obtain ⟨a19, b19, rfl⟩ := r19.shape
 have hB := below_alloc w (.cells cs 34)
 replace r1 := r1.alloc (.cells cs 34)
 replace r2 := r2.alloc (.cells cs 34)
 replace r3 := r3.alloc (.cells cs 34)
 replace r14 := r14.alloc (.cells cs 34)
 replace r16 := r16.alloc (.cells cs 34)
 replace r17 := r17.alloc (.cells cs 34)
 replace r18 := r18.alloc (.cells cs 34)
 replace r19 := r19.alloc (.cells cs 34)
 have hUB := Lib.hid (HR.out.uri.alloc (.cells cs 34))
 clear hu
 rw [ht] at e0
 clear ht
 go_enter func20, ntmps20
 go_wp2_with (first | (go_at_call 42; refine (isAddressed_c _ _).mono ?_; rintro e w1 ⟨rfl, rfl⟩) | (go_at_call 44; refine (isRouted_c _ _).mono ?_; rintro e w1 ⟨rfl, rfl⟩) | (go_at_call 45; refine (isNumbered_c _ _).mono ?_; rintro e w1 ⟨rfl, rfl⟩) | (go_at_call 41; refine (isOwn_c _ x.name _ r1).mono ?_; rintro e w1 ⟨rfl, rfl⟩) | (go_at_call 36; refine (isLine_c _ x.text _ r2).mono ?_; rintro e w1 ⟨rfl, rfl⟩))
 all_goals (go_ret; refine ⟨ret_bool ?_, by first | exact hB | simpa only [World.drewN_drewN] using hB⟩; rw [HE.out])
 all_goals (clear HE)
 all_goals (first | rfl | (go_light; (try simp only [SIPB, v20B]); grind))
theorem isHead_t1 (cs : Array Value) (x : Hd) (w : World) (h : HdR w cs x) (ht : x.t = 1) :
 Calls Tryz.prog 20 #[.agg cs] w fun e w' => e = .returned (.bool (isHeadB x)) ∧ Below w.heap.size w w' := by
 have HE : Hid (isHeadB x = (isShownB x.disp && isUriB x.uri && isParamsB x.ps false)) := by unfold Hid isHeadB; rw [ht]; rfl
 have q1 : addressed 1 = true := by decide
 have q2 : routed 1 = false := by decide
 have q3 : numbered 1 = false := by decide
 have HR := Lib.hid h
 obtain ⟨hsz, e0, ⟨v1, e1, r1⟩, ⟨v2, e2, r2⟩, ⟨v3, e3, r3⟩, hu, ⟨v14, e14, r14⟩, e15, ⟨v16, e16, r16⟩, ⟨v17, e17, r17⟩, ⟨v18, e18, r18⟩, ⟨v19, e19, r19⟩, e20, _, _, nlo, nhi, plo, phi⟩ := h
 have HZ := Lib.hid hsz; clear hsz
 obtain ⟨a1, b1, rfl⟩ := r1.shape
 obtain ⟨a2, b2, rfl⟩ := r2.shape
 obtain ⟨a3, b3, rfl⟩ := r3.shape
 obtain ⟨a14, b14, rfl⟩ := r14.shape
 obtain ⟨a16, b16, rfl⟩ := r16.shape
 obtain ⟨a17, b17, rfl⟩ := r17.shape
 obtain ⟨a18, b18, rfl⟩ := r18.shape
 obtain ⟨a19, b19, rfl⟩ := r19.shape
 have hB := below_alloc w (.cells cs 34)
 replace r1 := r1.alloc (.cells cs 34)
 replace r2 := r2.alloc (.cells cs 34)
 replace r3 := r3.alloc (.cells cs 34)
 replace r14 := r14.alloc (.cells cs 34)
 replace r16 := r16.alloc (.cells cs 34)
 replace r17 := r17.alloc (.cells cs 34)
 replace r18 := r18.alloc (.cells cs 34)
 replace r19 := r19.alloc (.cells cs 34)
 have hUB := Lib.hid (HR.out.uri.alloc (.cells cs 34))
 clear hu
 rw [ht] at e0
 clear ht
 go_enter func20, ntmps20
 go_wp2_with (first | (go_at_call 42; refine (isAddressed_c _ _).mono ?_; rintro e w1 ⟨rfl, rfl⟩) | (go_at_call 44; refine (isRouted_c _ _).mono ?_; rintro e w1 ⟨rfl, rfl⟩) | (go_at_call 45; refine (isNumbered_c _ _).mono ?_; rintro e w1 ⟨rfl, rfl⟩) | (go_at_call 43; refine (isShown_c _ x.disp _ r3).mono ?_; rintro e w1 ⟨rfl, rfl⟩) | (refine wpList_load_agg_g (o := ⟨_, .load 25 _, _, _, _, some _⟩) (by rfl) _ _ rfl (w.heap.size) (4) rfl (cs.extract 4 14) _ underlying25 rfl (infoUr.trans (congrArg some (Eq.symm (HR.out.uri.size)))) ((cells_new w cs _ _).part 4 14 (by rw [HZ.out]; omega)) ?_) | (go_at_call 19; refine (isUri_c _ x.uri _ hUB.out).mono ?_; rintro e w1 ⟨rfl, hb1⟩; obtain ⟨hc, hf⟩ := bcell hb1; have hz : w.heap.size < w1.heap.size := (by (have hq := hb1.size; (try simp only [World.size_alloc] at hq); omega)); replace r14 := r14.grow hb1; replace r17 := r17.grow hb1; replace r18 := r18.grow hb1; replace r19 := r19.grow hb1; replace hB := bt2 hB hb1) | (go_at_call 40; refine (isParams_c _ x.ps _ _ r14).mono ?_; rintro e w1 ⟨rfl, n, rfl⟩; replace hB := bt2 hB (below_drewN _ n)))
 all_goals (go_ret; refine ⟨ret_bool ?_, by first | exact hB | simpa only [World.drewN_drewN] using hB⟩; rw [HE.out])
 all_goals (clear HE)
 all_goals (first | rfl | (go_light; (try simp only [SIPB, v20B]); grind))
theorem isHead_t2 (cs : Array Value) (x : Hd) (w : World) (h : HdR w cs x) (ht : x.t = 2) :
 Calls Tryz.prog 20 #[.agg cs] w fun e w' => e = .returned (.bool (isHeadB x)) ∧ Below w.heap.size w w' := by
 have HE : Hid (isHeadB x = (isShownB x.disp && isUriB x.uri && isParamsB x.ps false)) := by unfold Hid isHeadB; rw [ht]; rfl
 have q1 : addressed 2 = true := by decide
 have q2 : routed 2 = false := by decide
 have q3 : numbered 2 = false := by decide
 have HR := Lib.hid h
 obtain ⟨hsz, e0, ⟨v1, e1, r1⟩, ⟨v2, e2, r2⟩, ⟨v3, e3, r3⟩, hu, ⟨v14, e14, r14⟩, e15, ⟨v16, e16, r16⟩, ⟨v17, e17, r17⟩, ⟨v18, e18, r18⟩, ⟨v19, e19, r19⟩, e20, _, _, nlo, nhi, plo, phi⟩ := h
 have HZ := Lib.hid hsz; clear hsz
 obtain ⟨a1, b1, rfl⟩ := r1.shape
 obtain ⟨a2, b2, rfl⟩ := r2.shape
 obtain ⟨a3, b3, rfl⟩ := r3.shape
 obtain ⟨a14, b14, rfl⟩ := r14.shape
 obtain ⟨a16, b16, rfl⟩ := r16.shape
 obtain ⟨a17, b17, rfl⟩ := r17.shape
 obtain ⟨a18, b18, rfl⟩ := r18.shape
 obtain ⟨a19, b19, rfl⟩ := r19.shape
 have hB := below_alloc w (.cells cs 34)
 replace r1 := r1.alloc (.cells cs 34)
 replace r2 := r2.alloc (.cells cs 34)
 replace r3 := r3.alloc (.cells cs 34)
 replace r14 := r14.alloc (.cells cs 34)
 replace r16 := r16.alloc (.cells cs 34)
 replace r17 := r17.alloc (.cells cs 34)
 replace r18 := r18.alloc (.cells cs 34)
 replace r19 := r19.alloc (.cells cs 34)
 have hUB := Lib.hid (HR.out.uri.alloc (.cells cs 34))
 clear hu
 rw [ht] at e0
 clear ht
 go_enter func20, ntmps20
 go_wp2_with (first | (go_at_call 42; refine (isAddressed_c _ _).mono ?_; rintro e w1 ⟨rfl, rfl⟩) | (go_at_call 44; refine (isRouted_c _ _).mono ?_; rintro e w1 ⟨rfl, rfl⟩) | (go_at_call 45; refine (isNumbered_c _ _).mono ?_; rintro e w1 ⟨rfl, rfl⟩) | (go_at_call 43; refine (isShown_c _ x.disp _ r3).mono ?_; rintro e w1 ⟨rfl, rfl⟩) | (refine wpList_load_agg_g (o := ⟨_, .load 25 _, _, _, _, some _⟩) (by rfl) _ _ rfl (w.heap.size) (4) rfl (cs.extract 4 14) _ underlying25 rfl (infoUr.trans (congrArg some (Eq.symm (HR.out.uri.size)))) ((cells_new w cs _ _).part 4 14 (by rw [HZ.out]; omega)) ?_) | (go_at_call 19; refine (isUri_c _ x.uri _ hUB.out).mono ?_; rintro e w1 ⟨rfl, hb1⟩; obtain ⟨hc, hf⟩ := bcell hb1; have hz : w.heap.size < w1.heap.size := (by (have hq := hb1.size; (try simp only [World.size_alloc] at hq); omega)); replace r14 := r14.grow hb1; replace r17 := r17.grow hb1; replace r18 := r18.grow hb1; replace r19 := r19.grow hb1; replace hB := bt2 hB hb1) | (go_at_call 40; refine (isParams_c _ x.ps _ _ r14).mono ?_; rintro e w1 ⟨rfl, n, rfl⟩; replace hB := bt2 hB (below_drewN _ n)))
 all_goals (go_ret; refine ⟨ret_bool ?_, by first | exact hB | simpa only [World.drewN_drewN] using hB⟩; rw [HE.out])
 all_goals (clear HE)
 all_goals (first | rfl | (go_light; (try simp only [SIPB, v20B]); grind))
theorem isHead_t3 (cs : Array Value) (x : Hd) (w : World) (h : HdR w cs x) (ht : x.t = 3) :
 Calls Tryz.prog 20 #[.agg cs] w fun e w' => e = .returned (.bool (isHeadB x)) ∧ Below w.heap.size w w' := by
 have HE : Hid (isHeadB x = (isShownB x.disp && isUriB x.uri && isParamsB x.ps false)) := by unfold Hid isHeadB; rw [ht]; rfl
 have q1 : addressed 3 = true := by decide
 have q2 : routed 3 = false := by decide
 have q3 : numbered 3 = false := by decide
 have HR := Lib.hid h
 obtain ⟨hsz, e0, ⟨v1, e1, r1⟩, ⟨v2, e2, r2⟩, ⟨v3, e3, r3⟩, hu, ⟨v14, e14, r14⟩, e15, ⟨v16, e16, r16⟩, ⟨v17, e17, r17⟩, ⟨v18, e18, r18⟩, ⟨v19, e19, r19⟩, e20, _, _, nlo, nhi, plo, phi⟩ := h
 have HZ := Lib.hid hsz; clear hsz
 obtain ⟨a1, b1, rfl⟩ := r1.shape
 obtain ⟨a2, b2, rfl⟩ := r2.shape
 obtain ⟨a3, b3, rfl⟩ := r3.shape
 obtain ⟨a14, b14, rfl⟩ := r14.shape
 obtain ⟨a16, b16, rfl⟩ := r16.shape
 obtain ⟨a17, b17, rfl⟩ := r17.shape
 obtain ⟨a18, b18, rfl⟩ := r18.shape
 obtain ⟨a19, b19, rfl⟩ := r19.shape
 have hB := below_alloc w (.cells cs 34)
 replace r1 := r1.alloc (.cells cs 34)
 replace r2 := r2.alloc (.cells cs 34)
 replace r3 := r3.alloc (.cells cs 34)
 replace r14 := r14.alloc (.cells cs 34)
 replace r16 := r16.alloc (.cells cs 34)
 replace r17 := r17.alloc (.cells cs 34)
 replace r18 := r18.alloc (.cells cs 34)
 replace r19 := r19.alloc (.cells cs 34)
 have hUB := Lib.hid (HR.out.uri.alloc (.cells cs 34))
 clear hu
 rw [ht] at e0
 clear ht
 go_enter func20, ntmps20
 go_wp2_with (first | (go_at_call 42; refine (isAddressed_c _ _).mono ?_; rintro e w1 ⟨rfl, rfl⟩) | (go_at_call 44; refine (isRouted_c _ _).mono ?_; rintro e w1 ⟨rfl, rfl⟩) | (go_at_call 45; refine (isNumbered_c _ _).mono ?_; rintro e w1 ⟨rfl, rfl⟩) | (go_at_call 43; refine (isShown_c _ x.disp _ r3).mono ?_; rintro e w1 ⟨rfl, rfl⟩) | (refine wpList_load_agg_g (o := ⟨_, .load 25 _, _, _, _, some _⟩) (by rfl) _ _ rfl (w.heap.size) (4) rfl (cs.extract 4 14) _ underlying25 rfl (infoUr.trans (congrArg some (Eq.symm (HR.out.uri.size)))) ((cells_new w cs _ _).part 4 14 (by rw [HZ.out]; omega)) ?_) | (go_at_call 19; refine (isUri_c _ x.uri _ hUB.out).mono ?_; rintro e w1 ⟨rfl, hb1⟩; obtain ⟨hc, hf⟩ := bcell hb1; have hz : w.heap.size < w1.heap.size := (by (have hq := hb1.size; (try simp only [World.size_alloc] at hq); omega)); replace r14 := r14.grow hb1; replace r17 := r17.grow hb1; replace r18 := r18.grow hb1; replace r19 := r19.grow hb1; replace hB := bt2 hB hb1) | (go_at_call 40; refine (isParams_c _ x.ps _ _ r14).mono ?_; rintro e w1 ⟨rfl, n, rfl⟩; replace hB := bt2 hB (below_drewN _ n)))
 all_goals (go_ret; refine ⟨ret_bool ?_, by first | exact hB | simpa only [World.drewN_drewN] using hB⟩; rw [HE.out])
 all_goals (clear HE)
 all_goals (first | rfl | (go_light; (try simp only [SIPB, v20B]); grind))
theorem isHead_t14 (cs : Array Value) (x : Hd) (w : World) (h : HdR w cs x) (ht : x.t = 14) :
 Calls Tryz.prog 20 #[.agg cs] w fun e w' => e = .returned (.bool (isHeadB x)) ∧ Below w.heap.size w w' := by
 have HE : Hid (isHeadB x = (isShownB x.disp && isUriB x.uri && isParamsB x.ps false)) := by unfold Hid isHeadB; rw [ht]; rfl
 have q1 : addressed 14 = true := by decide
 have q2 : routed 14 = false := by decide
 have q3 : numbered 14 = false := by decide
 have HR := Lib.hid h
 obtain ⟨hsz, e0, ⟨v1, e1, r1⟩, ⟨v2, e2, r2⟩, ⟨v3, e3, r3⟩, hu, ⟨v14, e14, r14⟩, e15, ⟨v16, e16, r16⟩, ⟨v17, e17, r17⟩, ⟨v18, e18, r18⟩, ⟨v19, e19, r19⟩, e20, _, _, nlo, nhi, plo, phi⟩ := h
 have HZ := Lib.hid hsz; clear hsz
 obtain ⟨a1, b1, rfl⟩ := r1.shape
 obtain ⟨a2, b2, rfl⟩ := r2.shape
 obtain ⟨a3, b3, rfl⟩ := r3.shape
 obtain ⟨a14, b14, rfl⟩ := r14.shape
 obtain ⟨a16, b16, rfl⟩ := r16.shape
 obtain ⟨a17, b17, rfl⟩ := r17.shape
 obtain ⟨a18, b18, rfl⟩ := r18.shape
 obtain ⟨a19, b19, rfl⟩ := r19.shape
 have hB := below_alloc w (.cells cs 34)
 replace r1 := r1.alloc (.cells cs 34)
 replace r2 := r2.alloc (.cells cs 34)
 replace r3 := r3.alloc (.cells cs 34)
 replace r14 := r14.alloc (.cells cs 34)
 replace r16 := r16.alloc (.cells cs 34)
 replace r17 := r17.alloc (.cells cs 34)
 replace r18 := r18.alloc (.cells cs 34)
 replace r19 := r19.alloc (.cells cs 34)
 have hUB := Lib.hid (HR.out.uri.alloc (.cells cs 34))
 clear hu
 rw [ht] at e0
 clear ht
 go_enter func20, ntmps20
 go_wp2_with (first | (go_at_call 42; refine (isAddressed_c _ _).mono ?_; rintro e w1 ⟨rfl, rfl⟩) | (go_at_call 44; refine (isRouted_c _ _).mono ?_; rintro e w1 ⟨rfl, rfl⟩) | (go_at_call 45; refine (isNumbered_c _ _).mono ?_; rintro e w1 ⟨rfl, rfl⟩) | (go_at_call 43; refine (isShown_c _ x.disp _ r3).mono ?_; rintro e w1 ⟨rfl, rfl⟩) | (refine wpList_load_agg_g (o := ⟨_, .load 25 _, _, _, _, some _⟩) (by rfl) _ _ rfl (w.heap.size) (4) rfl (cs.extract 4 14) _ underlying25 rfl (infoUr.trans (congrArg some (Eq.symm (HR.out.uri.size)))) ((cells_new w cs _ _).part 4 14 (by rw [HZ.out]; omega)) ?_) | (go_at_call 19; refine (isUri_c _ x.uri _ hUB.out).mono ?_; rintro e w1 ⟨rfl, hb1⟩; obtain ⟨hc, hf⟩ := bcell hb1; have hz : w.heap.size < w1.heap.size := (by (have hq := hb1.size; (try simp only [World.size_alloc] at hq); omega)); replace r14 := r14.grow hb1; replace r17 := r17.grow hb1; replace r18 := r18.grow hb1; replace r19 := r19.grow hb1; replace hB := bt2 hB hb1) | (go_at_call 40; refine (isParams_c _ x.ps _ _ r14).mono ?_; rintro e w1 ⟨rfl, n, rfl⟩; replace hB := bt2 hB (below_drewN _ n)))
 all_goals (go_ret; refine ⟨ret_bool ?_, by first | exact hB | simpa only [World.drewN_drewN] using hB⟩; rw [HE.out])
 all_goals (clear HE)
 all_goals (first | rfl | (go_light; (try simp only [SIPB, v20B]); grind))
end Go.Proofs.YtfcllhdhfenmcaaGreatDoor
