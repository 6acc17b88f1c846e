/- Part 8 of the proof: laws and walks (merged by a program). -/
import Derived.Test.YtfcllhdhfenmcaaGreatDoorK01
import Derived.Test.YtfcllhdhfenmcaaGreatDoorK06
set_option linter.all false
set_option maxHeartbeats 8000000
set_option maxRecDepth 100000
namespace Go.Proofs.YtfcllhdhfenmcaaGreatDoor
open Go.RowKit Go.Proofs.Tryz
theorem isHead_t11 (cs : Array Value) (x : Hd) (w : World) (h : HdR w cs x) (ht : x.t = 11) :
 Calls Tryz.prog 20 #[.agg cs] w fun e w' => e = .returned (.bool (isHeadB x)) ∧ Below w.heap.size w w' := by
 have HE : Hid (isHeadB x = (isUriB x.uri)) := by unfold Hid isHeadB; rw [ht]; rfl
 have q1 : addressed 11 = false := by decide
 have q2 : routed 11 = true := by decide
 have q3 : numbered 11 = false := by decide
 have HR := Lib.hid h
 obtain ⟨hsz, e0, ⟨v1, e1, r1⟩, ⟨v2, e2, r2⟩, ⟨v3, e3, r3⟩, hu, ⟨v14, e14, r14⟩, e15, ⟨v16, e16, r16⟩, ⟨v17, e17, r17⟩, ⟨v18, e18, r18⟩, ⟨v19, e19, r19⟩, e20, _, _, nlo, nhi, plo, phi⟩ := h
 have HZ := Lib.hid hsz; clear hsz
 obtain ⟨a1, b1, rfl⟩ := r1.shape
 obtain ⟨a2, b2, rfl⟩ := r2.shape
 obtain ⟨a3, b3, rfl⟩ := r3.shape
 obtain ⟨a14, b14, rfl⟩ := r14.shape
 obtain ⟨a16, b16, rfl⟩ := r16.shape
 obtain ⟨a17, b17, rfl⟩ := r17.shape
 obtain ⟨a18, b18, rfl⟩ := r18.shape
 obtain ⟨a19, b19, rfl⟩ := r19.shape
 have hB := below_alloc w (.cells cs 34)
 replace r1 := r1.alloc (.cells cs 34)
 replace r2 := r2.alloc (.cells cs 34)
 replace r3 := r3.alloc (.cells cs 34)
 replace r14 := r14.alloc (.cells cs 34)
 replace r16 := r16.alloc (.cells cs 34)
 replace r17 := r17.alloc (.cells cs 34)
 replace r18 := r18.alloc (.cells cs 34)
 replace r19 := r19.alloc (.cells cs 34)
 have hUB := Lib.hid (HR.out.uri.alloc (.cells cs 34))
 clear hu
 rw [ht] at e0
 clear ht
 go_enter func20, ntmps20
 go_wp2_with (first | (go_at_call 42; refine (isAddressed_c _ _).mono ?_; rintro e w1 ⟨rfl, rfl⟩) | (go_at_call 44; refine (isRouted_c _ _).mono ?_; rintro e w1 ⟨rfl, rfl⟩) | (go_at_call 45; refine (isNumbered_c _ _).mono ?_; rintro e w1 ⟨rfl, rfl⟩) | (refine wpList_load_agg (o := ⟨_, .load 25 _, _, _, _, _⟩) rfl _ _ rfl (w.heap.size) (4) rfl (cs.extract 4 14) _ underlying25 rfl (infoUr.trans (congrArg some (Eq.symm (HR.out.uri.size)))) ((cells_new w cs _ _).part 4 14 (by rw [HZ.out]; omega)) ?_) | (go_at_call 19; refine (isUri_c _ x.uri _ hUB.out).mono ?_; rintro e w1 ⟨rfl, hb1⟩; obtain ⟨hc, hf⟩ := bcell hb1; have hz : w.heap.size < w1.heap.size := (by (have hq := hb1.size; (try simp only [World.size_alloc] at hq); omega)); replace r14 := r14.grow hb1; replace r17 := r17.grow hb1; replace r18 := r18.grow hb1; replace r19 := r19.grow hb1; replace hB := bt2 hB hb1))
 all_goals (go_ret; refine ⟨ret_bool ?_, by first | exact hB | simpa only [World.drewN_drewN] using hB⟩; rw [HE.out])
 all_goals (clear HE)
 all_goals (first | rfl | (go_light; (try simp only [SIPB, v20B]); grind))
theorem isHead_t12 (cs : Array Value) (x : Hd) (w : World) (h : HdR w cs x) (ht : x.t = 12) :
 Calls Tryz.prog 20 #[.agg cs] w fun e w' => e = .returned (.bool (isHeadB x)) ∧ Below w.heap.size w w' := by
 have HE : Hid (isHeadB x = (isUriB x.uri)) := by unfold Hid isHeadB; rw [ht]; rfl
 have q1 : addressed 12 = false := by decide
 have q2 : routed 12 = true := by decide
 have q3 : numbered 12 = false := by decide
 have HR := Lib.hid h
 obtain ⟨hsz, e0, ⟨v1, e1, r1⟩, ⟨v2, e2, r2⟩, ⟨v3, e3, r3⟩, hu, ⟨v14, e14, r14⟩, e15, ⟨v16, e16, r16⟩, ⟨v17, e17, r17⟩, ⟨v18, e18, r18⟩, ⟨v19, e19, r19⟩, e20, _, _, nlo, nhi, plo, phi⟩ := h
 have HZ := Lib.hid hsz; clear hsz
 obtain ⟨a1, b1, rfl⟩ := r1.shape
 obtain ⟨a2, b2, rfl⟩ := r2.shape
 obtain ⟨a3, b3, rfl⟩ := r3.shape
 obtain ⟨a14, b14, rfl⟩ := r14.shape
 obtain ⟨a16, b16, rfl⟩ := r16.shape
 obtain ⟨a17, b17, rfl⟩ := r17.shape
 obtain ⟨a18, b18, rfl⟩ := r18.shape
 obtain ⟨a19, b19, rfl⟩ := r19.shape
 have hB := below_alloc w (.cells cs 34)
 replace r1 := r1.alloc (.cells cs 34)
 replace r2 := r2.alloc (.cells cs 34)
 replace r3 := r3.alloc (.cells cs 34)
 replace r14 := r14.alloc (.cells cs 34)
 replace r16 := r16.alloc (.cells cs 34)
 replace r17 := r17.alloc (.cells cs 34)
 replace r18 := r18.alloc (.cells cs 34)
 replace r19 := r19.alloc (.cells cs 34)
 have hUB := Lib.hid (HR.out.uri.alloc (.cells cs 34))
 clear hu
 rw [ht] at e0
 clear ht
 go_enter func20, ntmps20
 go_wp2_with (first | (go_at_call 42; refine (isAddressed_c _ _).mono ?_; rintro e w1 ⟨rfl, rfl⟩) | (go_at_call 44; refine (isRouted_c _ _).mono ?_; rintro e w1 ⟨rfl, rfl⟩) | (go_at_call 45; refine (isNumbered_c _ _).mono ?_; rintro e w1 ⟨rfl, rfl⟩) | (refine wpList_load_agg (o := ⟨_, .load 25 _, _, _, _, _⟩) rfl _ _ rfl (w.heap.size) (4) rfl (cs.extract 4 14) _ underlying25 rfl (infoUr.trans (congrArg some (Eq.symm (HR.out.uri.size)))) ((cells_new w cs _ _).part 4 14 (by rw [HZ.out]; omega)) ?_) | (go_at_call 19; refine (isUri_c _ x.uri _ hUB.out).mono ?_; rintro e w1 ⟨rfl, hb1⟩; obtain ⟨hc, hf⟩ := bcell hb1; have hz : w.heap.size < w1.heap.size := (by (have hq := hb1.size; (try simp only [World.size_alloc] at hq); omega)); replace r14 := r14.grow hb1; replace r17 := r17.grow hb1; replace r18 := r18.grow hb1; replace r19 := r19.grow hb1; replace hB := bt2 hB hb1))
 all_goals (go_ret; refine ⟨ret_bool ?_, by first | exact hB | simpa only [World.drewN_drewN] using hB⟩; rw [HE.out])
 all_goals (clear HE)
 all_goals (first | rfl | (go_light; (try simp only [SIPB, v20B]); grind))
theorem isHead_t13 (cs : Array Value) (x : Hd) (w : World) (h : HdR w cs x) (ht : x.t = 13) :
 Calls Tryz.prog 20 #[.agg cs] w fun e w' => e = .returned (.bool (isHeadB x)) ∧ Below w.heap.size w w' := by
 have HE : Hid (isHeadB x = (isUriB x.uri)) := by unfold Hid isHeadB; rw [ht]; rfl
 have q1 : addressed 13 = false := by decide
 have q2 : routed 13 = true := by decide
 have q3 : numbered 13 = false := by decide
 have HR := Lib.hid h
 obtain ⟨hsz, e0, ⟨v1, e1, r1⟩, ⟨v2, e2, r2⟩, ⟨v3, e3, r3⟩, hu, ⟨v14, e14, r14⟩, e15, ⟨v16, e16, r16⟩, ⟨v17, e17, r17⟩, ⟨v18, e18, r18⟩, ⟨v19, e19, r19⟩, e20, _, _, nlo, nhi, plo, phi⟩ := h
 have HZ := Lib.hid hsz; clear hsz
 obtain ⟨a1, b1, rfl⟩ := r1.shape
 obtain ⟨a2, b2, rfl⟩ := r2.shape
 obtain ⟨a3, b3, rfl⟩ := r3.shape
 obtain ⟨a14, b14, rfl⟩ := r14.shape
 obtain ⟨a16, b16, rfl⟩ := r16.shape
 obtain ⟨a17, b17, rfl⟩ := r17.shape
 obtain ⟨a18, b18, rfl⟩ := r18.shape
 obtain ⟨a19, b19, rfl⟩ := r19.shape
 have hB := below_alloc w (.cells cs 34)
 replace r1 := r1.alloc (.cells cs 34)
 replace r2 := r2.alloc (.cells cs 34)
 replace r3 := r3.alloc (.cells cs 34)
 replace r14 := r14.alloc (.cells cs 34)
 replace r16 := r16.alloc (.cells cs 34)
 replace r17 := r17.alloc (.cells cs 34)
 replace r18 := r18.alloc (.cells cs 34)
 replace r19 := r19.alloc (.cells cs 34)
 have hUB := Lib.hid (HR.out.uri.alloc (.cells cs 34))
 clear hu
 rw [ht] at e0
 clear ht
 go_enter func20, ntmps20
 go_wp2_with (first | (go_at_call 42; refine (isAddressed_c _ _).mono ?_; rintro e w1 ⟨rfl, rfl⟩) | (go_at_call 44; refine (isRouted_c _ _).mono ?_; rintro e w1 ⟨rfl, rfl⟩) | (go_at_call 45; refine (isNumbered_c _ _).mono ?_; rintro e w1 ⟨rfl, rfl⟩) | (refine wpList_load_agg (o := ⟨_, .load 25 _, _, _, _, _⟩) rfl _ _ rfl (w.heap.size) (4) rfl (cs.extract 4 14) _ underlying25 rfl (infoUr.trans (congrArg some (Eq.symm (HR.out.uri.size)))) ((cells_new w cs _ _).part 4 14 (by rw [HZ.out]; omega)) ?_) | (go_at_call 19; refine (isUri_c _ x.uri _ hUB.out).mono ?_; rintro e w1 ⟨rfl, hb1⟩; obtain ⟨hc, hf⟩ := bcell hb1; have hz : w.heap.size < w1.heap.size := (by (have hq := hb1.size; (try simp only [World.size_alloc] at hq); omega)); replace r14 := r14.grow hb1; replace r17 := r17.grow hb1; replace r18 := r18.grow hb1; replace r19 := r19.grow hb1; replace hB := bt2 hB hb1))
 all_goals (go_ret; refine ⟨ret_bool ?_, by first | exact hB | simpa only [World.drewN_drewN] using hB⟩; rw [HE.out])
 all_goals (clear HE)
 all_goals (first | rfl | (go_light; (try simp only [SIPB, v20B]); grind))
theorem isHead_t6 (cs : Array Value) (x : Hd) (w : World) (h : HdR w cs x) (ht : x.t = 6) :
 Calls Tryz.prog 20 #[.agg cs] w fun e w' => e = .returned (.bool (isHeadB x)) ∧ Below w.heap.size w w' := by
 have HE : Hid (isHeadB x = (decide (x.num < 256))) := by unfold Hid isHeadB; rw [ht]; rfl
 have q1 : addressed 6 = false := by decide
 have q2 : routed 6 = false := by decide
 have q3 : numbered 6 = true := by decide
 have HR := Lib.hid h
 obtain ⟨hsz, e0, ⟨v1, e1, r1⟩, ⟨v2, e2, r2⟩, ⟨v3, e3, r3⟩, hu, ⟨v14, e14, r14⟩, e15, ⟨v16, e16, r16⟩, ⟨v17, e17, r17⟩, ⟨v18, e18, r18⟩, ⟨v19, e19, r19⟩, e20, _, _, nlo, nhi, plo, phi⟩ := h
 have HZ := Lib.hid hsz; clear hsz
 obtain ⟨a1, b1, rfl⟩ := r1.shape
 obtain ⟨a2, b2, rfl⟩ := r2.shape
 obtain ⟨a3, b3, rfl⟩ := r3.shape
 obtain ⟨a14, b14, rfl⟩ := r14.shape
 obtain ⟨a16, b16, rfl⟩ := r16.shape
 obtain ⟨a17, b17, rfl⟩ := r17.shape
 obtain ⟨a18, b18, rfl⟩ := r18.shape
 obtain ⟨a19, b19, rfl⟩ := r19.shape
 have hB := below_alloc w (.cells cs 34)
 replace r1 := r1.alloc (.cells cs 34)
 replace r2 := r2.alloc (.cells cs 34)
 replace r3 := r3.alloc (.cells cs 34)
 replace r14 := r14.alloc (.cells cs 34)
 replace r16 := r16.alloc (.cells cs 34)
 replace r17 := r17.alloc (.cells cs 34)
 replace r18 := r18.alloc (.cells cs 34)
 replace r19 := r19.alloc (.cells cs 34)
 have hUB := Lib.hid (HR.out.uri.alloc (.cells cs 34))
 clear hu
 rw [ht] at e0
 clear ht
 go_enter func20, ntmps20
 go_wp2_with (first | (go_at_call 42; refine (isAddressed_c _ _).mono ?_; rintro e w1 ⟨rfl, rfl⟩) | (go_at_call 44; refine (isRouted_c _ _).mono ?_; rintro e w1 ⟨rfl, rfl⟩) | (go_at_call 45; refine (isNumbered_c _ _).mono ?_; rintro e w1 ⟨rfl, rfl⟩))
 all_goals (go_ret; refine ⟨ret_bool ?_, by first | exact hB | simpa only [World.drewN_drewN] using hB⟩; rw [HE.out])
 all_goals (clear HE)
 all_goals (first | rfl | (go_light; (try simp only [SIPB, v20B]); grind))
theorem isHead_t7 (cs : Array Value) (x : Hd) (w : World) (h : HdR w cs x) (ht : x.t = 7) :
 Calls Tryz.prog 20 #[.agg cs] w fun e w' => e = .returned (.bool (isHeadB x)) ∧ Below w.heap.size w w' := by
 have HE : Hid (isHeadB x = (decide (x.num ≤ 2147483647))) := by unfold Hid isHeadB; rw [ht]; rfl
 have q1 : addressed 7 = false := by decide
 have q2 : routed 7 = false := by decide
 have q3 : numbered 7 = true := by decide
 have HR := Lib.hid h
 obtain ⟨hsz, e0, ⟨v1, e1, r1⟩, ⟨v2, e2, r2⟩, ⟨v3, e3, r3⟩, hu, ⟨v14, e14, r14⟩, e15, ⟨v16, e16, r16⟩, ⟨v17, e17, r17⟩, ⟨v18, e18, r18⟩, ⟨v19, e19, r19⟩, e20, _, _, nlo, nhi, plo, phi⟩ := h
 have HZ := Lib.hid hsz; clear hsz
 obtain ⟨a1, b1, rfl⟩ := r1.shape
 obtain ⟨a2, b2, rfl⟩ := r2.shape
 obtain ⟨a3, b3, rfl⟩ := r3.shape
 obtain ⟨a14, b14, rfl⟩ := r14.shape
 obtain ⟨a16, b16, rfl⟩ := r16.shape
 obtain ⟨a17, b17, rfl⟩ := r17.shape
 obtain ⟨a18, b18, rfl⟩ := r18.shape
 obtain ⟨a19, b19, rfl⟩ := r19.shape
 have hB := below_alloc w (.cells cs 34)
 replace r1 := r1.alloc (.cells cs 34)
 replace r2 := r2.alloc (.cells cs 34)
 replace r3 := r3.alloc (.cells cs 34)
 replace r14 := r14.alloc (.cells cs 34)
 replace r16 := r16.alloc (.cells cs 34)
 replace r17 := r17.alloc (.cells cs 34)
 replace r18 := r18.alloc (.cells cs 34)
 replace r19 := r19.alloc (.cells cs 34)
 have hUB := Lib.hid (HR.out.uri.alloc (.cells cs 34))
 clear hu
 rw [ht] at e0
 clear ht
 go_enter func20, ntmps20
 go_wp2_with (first | (go_at_call 42; refine (isAddressed_c _ _).mono ?_; rintro e w1 ⟨rfl, rfl⟩) | (go_at_call 44; refine (isRouted_c _ _).mono ?_; rintro e w1 ⟨rfl, rfl⟩) | (go_at_call 45; refine (isNumbered_c _ _).mono ?_; rintro e w1 ⟨rfl, rfl⟩))
 all_goals (go_ret; refine ⟨ret_bool ?_, by first | exact hB | simpa only [World.drewN_drewN] using hB⟩; rw [HE.out])
 all_goals (clear HE)
 all_goals (first | rfl | (go_light; (try simp only [SIPB, v20B]); grind))
theorem isHead_t8 (cs : Array Value) (x : Hd) (w : World) (h : HdR w cs x) (ht : x.t = 8) :
 Calls Tryz.prog 20 #[.agg cs] w fun e w' => e = .returned (.bool (isHeadB x)) ∧ Below w.heap.size w w' := by
 have HE : Hid (isHeadB x = (decide (x.num ≤ 2147483647))) := by unfold Hid isHeadB; rw [ht]; rfl
 have q1 : addressed 8 = false := by decide
 have q2 : routed 8 = false := by decide
 have q3 : numbered 8 = true := by decide
 have HR := Lib.hid h
 obtain ⟨hsz, e0, ⟨v1, e1, r1⟩, ⟨v2, e2, r2⟩, ⟨v3, e3, r3⟩, hu, ⟨v14, e14, r14⟩, e15, ⟨v16, e16, r16⟩, ⟨v17, e17, r17⟩, ⟨v18, e18, r18⟩, ⟨v19, e19, r19⟩, e20, _, _, nlo, nhi, plo, phi⟩ := h
 have HZ := Lib.hid hsz; clear hsz
 obtain ⟨a1, b1, rfl⟩ := r1.shape
 obtain ⟨a2, b2, rfl⟩ := r2.shape
 obtain ⟨a3, b3, rfl⟩ := r3.shape
 obtain ⟨a14, b14, rfl⟩ := r14.shape
 obtain ⟨a16, b16, rfl⟩ := r16.shape
 obtain ⟨a17, b17, rfl⟩ := r17.shape
 obtain ⟨a18, b18, rfl⟩ := r18.shape
 obtain ⟨a19, b19, rfl⟩ := r19.shape
 have hB := below_alloc w (.cells cs 34)
 replace r1 := r1.alloc (.cells cs 34)
 replace r2 := r2.alloc (.cells cs 34)
 replace r3 := r3.alloc (.cells cs 34)
 replace r14 := r14.alloc (.cells cs 34)
 replace r16 := r16.alloc (.cells cs 34)
 replace r17 := r17.alloc (.cells cs 34)
 replace r18 := r18.alloc (.cells cs 34)
 replace r19 := r19.alloc (.cells cs 34)
 have hUB := Lib.hid (HR.out.uri.alloc (.cells cs 34))
 clear hu
 rw [ht] at e0
 clear ht
 go_enter func20, ntmps20
 go_wp2_with (first | (go_at_call 42; refine (isAddressed_c _ _).mono ?_; rintro e w1 ⟨rfl, rfl⟩) | (go_at_call 44; refine (isRouted_c _ _).mono ?_; rintro e w1 ⟨rfl, rfl⟩) | (go_at_call 45; refine (isNumbered_c _ _).mono ?_; rintro e w1 ⟨rfl, rfl⟩))
 all_goals (go_ret; refine ⟨ret_bool ?_, by first | exact hB | simpa only [World.drewN_drewN] using hB⟩; rw [HE.out])
 all_goals (clear HE)
 all_goals (first | rfl | (go_light; (try simp only [SIPB, v20B]); grind))
theorem isHead_t4 (cs : Array Value) (x : Hd) (w : World) (h : HdR w cs x) (ht : x.t = 4) :
 Calls Tryz.prog 20 #[.agg cs] w fun e w' => e = .returned (.bool (isHeadB x)) ∧ Below w.heap.size w w' := by
 have HE : Hid (isHeadB x = (isWordB x.text)) := by unfold Hid isHeadB; rw [ht]; rfl
 have q1 : addressed 4 = false := by decide
 have q2 : routed 4 = false := by decide
 have q3 : numbered 4 = false := by decide
 have HR := Lib.hid h
 obtain ⟨hsz, e0, ⟨v1, e1, r1⟩, ⟨v2, e2, r2⟩, ⟨v3, e3, r3⟩, hu, ⟨v14, e14, r14⟩, e15, ⟨v16, e16, r16⟩, ⟨v17, e17, r17⟩, ⟨v18, e18, r18⟩, ⟨v19, e19, r19⟩, e20, _, _, nlo, nhi, plo, phi⟩ := h
 have HZ := Lib.hid hsz; clear hsz
 obtain ⟨a1, b1, rfl⟩ := r1.shape
 obtain ⟨a2, b2, rfl⟩ := r2.shape
 obtain ⟨a3, b3, rfl⟩ := r3.shape
 obtain ⟨a14, b14, rfl⟩ := r14.shape
 obtain ⟨a16, b16, rfl⟩ := r16.shape
 obtain ⟨a17, b17, rfl⟩ := r17.shape
 obtain ⟨a18, b18, rfl⟩ := r18.shape
 obtain ⟨a19, b19, rfl⟩ := r19.shape
 have hB := below_alloc w (.cells cs 34)
 replace r1 := r1.alloc (.cells cs 34)
 replace r2 := r2.alloc (.cells cs 34)
 replace r3 := r3.alloc (.cells cs 34)
 replace r14 := r14.alloc (.cells cs 34)
 replace r16 := r16.alloc (.cells cs 34)
 replace r17 := r17.alloc (.cells cs 34)
 replace r18 := r18.alloc (.cells cs 34)
 replace r19 := r19.alloc (.cells cs 34)
 have hUB := Lib.hid (HR.out.uri.alloc (.cells cs 34))
 clear hu
 rw [ht] at e0
 clear ht
 go_enter func20, ntmps20
 go_wp2_with (first | (go_at_call 42; refine (isAddressed_c _ _).mono ?_; rintro e w1 ⟨rfl, rfl⟩) | (go_at_call 44; refine (isRouted_c _ _).mono ?_; rintro e w1 ⟨rfl, rfl⟩) | (go_at_call 45; refine (isNumbered_c _ _).mono ?_; rintro e w1 ⟨rfl, rfl⟩) | (go_at_call 28; refine (isWord_c _ x.text _ r2).mono ?_; rintro e w1 ⟨rfl, rfl⟩))
 all_goals (go_ret; refine ⟨ret_bool ?_, by first | exact hB | simpa only [World.drewN_drewN] using hB⟩; rw [HE.out])
 all_goals (clear HE)
 all_goals (first | rfl | (go_light; (try simp only [SIPB, v20B]); grind))
theorem isHead_t10 (cs : Array Value) (x : Hd) (w : World) (h : HdR w cs x) (ht : x.t = 10) :
 Calls Tryz.prog 20 #[.agg cs] w fun e w' => e = .returned (.bool (isHeadB x)) ∧ Below w.heap.size w w' := by
 have HE : Hid (isHeadB x = (isLineB x.text)) := by unfold Hid isHeadB; rw [ht]; rfl
 have q1 : addressed 10 = false := by decide
 have q2 : routed 10 = false := by decide
 have q3 : numbered 10 = false := by decide
 have HR := Lib.hid h
 obtain ⟨hsz, e0, ⟨v1, e1, r1⟩, ⟨v2, e2, r2⟩, ⟨v3, e3, r3⟩, hu, ⟨v14, e14, r14⟩, e15, ⟨v16, e16, r16⟩, ⟨v17, e17, r17⟩, ⟨v18, e18, r18⟩, ⟨v19, e19, r19⟩, e20, _, _, nlo, nhi, plo, phi⟩ := h
 have HZ := Lib.hid hsz; clear hsz
 obtain ⟨a1, b1, rfl⟩ := r1.shape
 obtain ⟨a2, b2, rfl⟩ := r2.shape
 obtain ⟨a3, b3, rfl⟩ := r3.shape
 obtain ⟨a14, b14, rfl⟩ := r14.shape
 obtain ⟨a16, b16, rfl⟩ := r16.shape
 obtain ⟨a17, b17, rfl⟩ := r17.shape
 obtain ⟨a18, b18, rfl⟩ := r18.shape
 obtain ⟨a19, b19, rfl⟩ := r19.shape
 have hB := below_alloc w (.cells cs 34)
 replace r1 := r1.alloc (.cells cs 34)
 replace r2 := r2.alloc (.cells cs 34)
 replace r3 := r3.alloc (.cells cs 34)
 replace r14 := r14.alloc (.cells cs 34)
 replace r16 := r16.alloc (.cells cs 34)
 replace r17 := r17.alloc (.cells cs 34)
 replace r18 := r18.alloc (.cells cs 34)
 replace r19 := r19.alloc (.cells cs 34)
 have hUB := Lib.hid (HR.out.uri.alloc (.cells cs 34))
 clear hu
 rw [ht] at e0
 clear ht
 go_enter func20, ntmps20
 go_wp2_with (first | (go_at_call 42; refine (isAddressed_c _ _).mono ?_; rintro e w1 ⟨rfl, rfl⟩) | (go_at_call 44; refine (isRouted_c _ _).mono ?_; rintro e w1 ⟨rfl, rfl⟩) | (go_at_call 45; refine (isNumbered_c _ _).mono ?_; rintro e w1 ⟨rfl, rfl⟩) | (go_at_call 36; refine (isLine_c _ x.text _ r2).mono ?_; rintro e w1 ⟨rfl, rfl⟩))
 all_goals (go_ret; refine ⟨ret_bool ?_, by first | exact hB | simpa only [World.drewN_drewN] using hB⟩; rw [HE.out])
 all_goals (clear HE)
 all_goals (first | rfl | (go_light; (try simp only [SIPB, v20B]); grind))
theorem isHead_t5 (cs : Array Value) (x : Hd) (w : World) (h : HdR w cs x) (ht : x.t = 5) :
 Calls Tryz.prog 20 #[.agg cs] w fun e w' => e = .returned (.bool (isHeadB x)) ∧ Below w.heap.size w w' := by
 have HE : Hid (isHeadB x = (isWordB x.text && decide (x.num ≤ 2147483647))) := by unfold Hid isHeadB; rw [ht]; rfl
 have q1 : addressed 5 = false := by decide
 have q2 : routed 5 = false := by decide
 have q3 : numbered 5 = false := by decide
 have HR := Lib.hid h
 obtain ⟨hsz, e0, ⟨v1, e1, r1⟩, ⟨v2, e2, r2⟩, ⟨v3, e3, r3⟩, hu, ⟨v14, e14, r14⟩, e15, ⟨v16, e16, r16⟩, ⟨v17, e17, r17⟩, ⟨v18, e18, r18⟩, ⟨v19, e19, r19⟩, e20, _, _, nlo, nhi, plo, phi⟩ := h
 have HZ := Lib.hid hsz; clear hsz
 obtain ⟨a1, b1, rfl⟩ := r1.shape
 obtain ⟨a2, b2, rfl⟩ := r2.shape
 obtain ⟨a3, b3, rfl⟩ := r3.shape
 obtain ⟨a14, b14, rfl⟩ := r14.shape
 obtain ⟨a16, b16, rfl⟩ := r16.shape
 obtain ⟨a17, b17, rfl⟩ := r17.shape
 obtain ⟨a18, b18, rfl⟩ := r18.shape
 obtain ⟨a19, b19, rfl⟩ := r19.shape
 have hB := below_alloc w (.cells cs 34)
 replace r1 := r1.alloc (.cells cs 34)
 replace r2 := r2.alloc (.cells cs 34)
 replace r3 := r3.alloc (.cells cs 34)
 replace r14 := r14.alloc (.cells cs 34)
 replace r16 := r16.alloc (.cells cs 34)
 replace r17 := r17.alloc (.cells cs 34)
 replace r18 := r18.alloc (.cells cs 34)
 replace r19 := r19.alloc (.cells cs 34)
 have hUB := Lib.hid (HR.out.uri.alloc (.cells cs 34))
 clear hu
 rw [ht] at e0
 clear ht
 go_enter func20, ntmps20
 go_wp2_with (first | (go_at_call 42; refine (isAddressed_c _ _).mono ?_; rintro e w1 ⟨rfl, rfl⟩) | (go_at_call 44; refine (isRouted_c _ _).mono ?_; rintro e w1 ⟨rfl, rfl⟩) | (go_at_call 45; refine (isNumbered_c _ _).mono ?_; rintro e w1 ⟨rfl, rfl⟩) | (go_at_call 28; refine (isWord_c _ x.text _ r2).mono ?_; rintro e w1 ⟨rfl, rfl⟩))
 all_goals (go_ret; refine ⟨ret_bool ?_, by first | exact hB | simpa only [World.drewN_drewN] using hB⟩; rw [HE.out])
 all_goals (clear HE)
 all_goals (first | rfl | (go_light; (try simp only [SIPB, v20B]); grind))
end Go.Proofs.YtfcllhdhfenmcaaGreatDoor
