/- Part 5 of the proof: laws and walks (merged by a program). -/
import Derived.Test.YtfcllhdhfenmcaaGreatDoorK01
import Derived.Test.YtfcllhdhfenmcaaGreatDoorK03
import Derived.Test.YtfcllhdhfenmcaaGreatDoorK04
set_option linter.all false
set_option maxHeartbeats 8000000
set_option maxRecDepth 100000
namespace Go.Proofs.YtfcllhdhfenmcaaGreatDoor
open Go.RowKit Go.Proofs.Tryz
def sipsB : By := [115, 105, 112, 115]
def isUriB (u : Ur) : Bool :=
 (equalB u.scheme sipB || equalB u.scheme sipsB) && decide (u.raw.length = 0) && !u.star && !u.slashes && decide (0 ≤ u.port ∧ u.port ≤ 65535) && isHostB u.host &&
 (decide (u.user.length = 0) || isUserB u.user) && (decide (u.pass.length = 0) || (!decide (u.user.length = 0) && isUserB u.pass)) &&
 isParamsB u.ps false && isParamsB u.hs true && (decide (u.hs.length = 0) || decide (u.ps.length = 0) || !decide ((kvAt u.ps (u.ps.length - 1)).v.length = 0))
theorem bt2 {w a b : World} (h : Below w.heap.size w a) (k : Below a.heap.size a b) : Below w.heap.size w b := below_then h h.size k
theorem bta {w a : World} (h : Below w.heap.size w a) (o : Obj) : Below w.heap.size w (a.alloc o) := h.alloc h.size o
theorem isUri_c1 (cs : Array Value) (u : Ur) (w : World) (h : UrR w cs u) (hps : 0 < u.ps.length) :
 Calls Tryz.prog 19 #[.agg cs] w fun e w' => e = .returned (.bool (isUriB u)) ∧ Below w.heap.size w w' := by
 obtain ⟨A0, n0, A1, n1, A4, n4, A5, n5, A6, n6, A8, n8, A9, n9, e0, e1, e4, e5, e6, e8, e9, r0, _, r4, r5, r6, r8, r9⟩ := h.shapes
 have e2 := h.star
 have e3 := h.slashes
 have e7 := h.port
 have p0 := h.portLo
 have p1 := h.portHi
 clear h
 have hB := below_alloc w (.cells cs 25)
 replace r0 := r0.alloc (.cells cs 25)
 replace r4 := r4.alloc (.cells cs 25)
 replace r5 := r5.alloc (.cells cs 25)
 replace r6 := r6.alloc (.cells cs 25)
 replace r8 := r8.alloc (.cells cs 25)
 replace r9 := r9.alloc (.cells cs 25)
 have hlast : 0 < u.ps.length → ∃ b o A n, A8 = some ⟨b, o, none⟩ ∧ b < (w.alloc (.cells cs 25)).heap.size ∧ (w.alloc (.cells cs 25)).cell? ⟨b, o + (u.ps.length - 1) * 2 + 1, none⟩ = some (.slice A (kvAt u.ps (u.ps.length - 1)).v.length n) := fun h0 => by
  obtain ⟨A, c, he, _, _, h3⟩ := r8
  injection he with e1 e2 e3
  obtain ⟨b, o, rfl, hb, hc⟩ := h3 h0
  obtain ⟨kv, vv, _, q2, _, q4⟩ := hc (u.ps.length - 1) (by omega)
  obtain ⟨A', n', rfl⟩ := q4.shape
  exact ⟨b, o, A', n', e1, hb, q2⟩
 have HL : (isUriB u = ((equalB u.scheme sipB || equalB u.scheme sipsB) && decide (u.raw.length = 0) && !u.star && !u.slashes && decide (0 ≤ u.port ∧ u.port ≤ 65535) && isHostB u.host &&
  (decide (u.user.length = 0) || isUserB u.user) && (decide (u.pass.length = 0) || (!decide (u.user.length = 0) && isUserB u.pass)) &&
  isParamsB u.ps false && isParamsB u.hs true && (decide (u.hs.length = 0) || decide (u.ps.length = 0) || !decide ((kvAt u.ps (u.ps.length - 1)).v.length = 0)))) := rfl
 have HLast := Lib.hid hlast; clear hlast
 obtain ⟨b, o, AA, nn, rfl, hbl, cl⟩ := HLast.out hps
 have hidx : IntKind.i64.wrap ((u.ps.length : Int) - 1) = (u.ps.length : Int) - 1 := IntWalk.i64_in _ (by obtain ⟨A, c, he, q1, q2, _⟩ := r8; omega)
 have hps' : ((u.ps.length : Int) == 0) = false := beq_eq_false_iff_ne.2 (by omega)
 obtain ⟨lr, hlr⟩ : ∃ n, n = u.raw.length := ⟨_, rfl⟩
 obtain ⟨lu, hlu⟩ : ∃ n, n = u.user.length := ⟨_, rfl⟩
 obtain ⟨lp, hlp⟩ : ∃ n, n = u.pass.length := ⟨_, rfl⟩
 obtain ⟨lh, hlh⟩ : ∃ n, n = u.hs.length := ⟨_, rfl⟩
 obtain ⟨ll, hll⟩ : ∃ n, n = (kvAt u.ps (u.ps.length - 1)).v.length := ⟨_, rfl⟩
 rw [← hlr] at e1
 rw [← hlu] at e4 r4
 rw [← hlp] at e5 r5
 rw [← hlh] at e9 r9
 rw [← hll] at cl
 have hps0 : decide (u.ps.length = 0) = false := decide_eq_false (by omega)
 rw [← hlr, ← hlu, ← hlp, ← hlh, ← hll, hps0] at HL
 replace HL := Lib.hid HL
 clear hlr hlu hlp hlh hll hps0
 go_enter func19, ntmps19
 go_wp2_with (first
  | (go_at_call 17; refine (is_c _ u.scheme _ _ r0 (by decide)).mono ?_; rintro e w1 ⟨rfl, hb1⟩; obtain ⟨hc, hf⟩ := bcell hb1; have hz : w.heap.size < w1.heap.size := (by (have hq := hb1.size; (try simp only [World.size_alloc] at hq); omega)); replace r0 := r0.grow hb1; replace r4 := r4.grow hb1; replace r5 := r5.grow hb1; replace r6 := r6.grow hb1; replace r8 := r8.grow hb1; replace r9 := r9.grow hb1; replace hB := bt2 hB hb1; replace cl := (hb1.cell (p := ⟨b, o + (u.ps.length - 1) * 2 + 1, none⟩) hbl).trans cl; replace hbl := Nat.lt_of_lt_of_le hbl hb1.size)
  | (go_at_call 38; refine (isHost_c _ u.host _ r6).mono ?_; rintro e w1 ⟨rfl, rfl⟩)
  | (go_at_call 39; (first | (with_reducible refine (isUser_c _ u.user _ r4).mono ?_) | (with_reducible refine (isUser_c _ u.pass _ r5).mono ?_)); rintro e w1 ⟨rfl, rfl⟩)
  | (go_at_call 40; (first | (with_reducible refine (isParams_c _ u.ps _ _ r8).mono ?_) | (with_reducible refine (isParams_c _ u.hs _ _ r9).mono ?_)); rintro e w1 ⟨rfl, n, rfl⟩; replace r9 := r9.drewN n; replace hB := bt2 hB (below_drewN _ n)))
 all_goals (go_ret; refine ⟨ret_bool ?_, by first | exact hB | simpa only [World.drewN_drewN] using hB⟩; rw [HL.out]; simp only [sipB, sipsB]; go_light; clear hc hf r0 r4 r5 r6 r8 r9 hB HL HLast)
 all_goals grind
theorem isUri_c2 (cs : Array Value) (u : Ur) (w : World) (h : UrR w cs u) (hps : ¬ 0 < u.ps.length) :
 Calls Tryz.prog 19 #[.agg cs] w fun e w' => e = .returned (.bool (isUriB u)) ∧ Below w.heap.size w w' := by
 obtain ⟨A0, n0, A1, n1, A4, n4, A5, n5, A6, n6, A8, n8, A9, n9, e0, e1, e4, e5, e6, e8, e9, r0, _, r4, r5, r6, r8, r9⟩ := h.shapes
 have e2 := h.star
 have e3 := h.slashes
 have e7 := h.port
 have p0 := h.portLo
 have p1 := h.portHi
 clear h
 have hB := below_alloc w (.cells cs 25)
 replace r0 := r0.alloc (.cells cs 25)
 replace r4 := r4.alloc (.cells cs 25)
 replace r5 := r5.alloc (.cells cs 25)
 replace r6 := r6.alloc (.cells cs 25)
 replace r8 := r8.alloc (.cells cs 25)
 replace r9 := r9.alloc (.cells cs 25)
 have HL : (isUriB u = ((equalB u.scheme sipB || equalB u.scheme sipsB) && decide (u.raw.length = 0) && !u.star && !u.slashes && decide (0 ≤ u.port ∧ u.port ≤ 65535) && isHostB u.host &&
  (decide (u.user.length = 0) || isUserB u.user) && (decide (u.pass.length = 0) || (!decide (u.user.length = 0) && isUserB u.pass)) &&
  isParamsB u.ps false && isParamsB u.hs true && (decide (u.hs.length = 0) || decide (u.ps.length = 0) || !decide ((kvAt u.ps (u.ps.length - 1)).v.length = 0)))) := rfl
 obtain ⟨lr, hlr⟩ : ∃ n, n = u.raw.length := ⟨_, rfl⟩
 obtain ⟨lu, hlu⟩ : ∃ n, n = u.user.length := ⟨_, rfl⟩
 obtain ⟨lp, hlp⟩ : ∃ n, n = u.pass.length := ⟨_, rfl⟩
 obtain ⟨lh, hlh⟩ : ∃ n, n = u.hs.length := ⟨_, rfl⟩
 rw [← hlr] at e1
 rw [← hlu] at e4 r4
 rw [← hlp] at e5 r5
 rw [← hlh] at e9 r9
 have hps0 : decide (u.ps.length = 0) = true := decide_eq_true (by omega)
 obtain ⟨lk, hlk⟩ : ∃ n, n = u.ps.length := ⟨_, rfl⟩
 rw [← hlk] at e8 r8 hps
 have hps' : ((lk : Int) == 0) = true := beq_iff_eq.2 (by omega)
 rw [← hlr, ← hlu, ← hlp, ← hlh, hps0] at HL
 replace HL := Lib.hid HL
 clear hlr hlu hlp hlh hlk hps0
 go_enter func19, ntmps19
 go_wp2_with (first
  | (go_at_call 17; refine (is_c _ u.scheme _ _ r0 (by decide)).mono ?_; rintro e w1 ⟨rfl, hb1⟩; obtain ⟨hc, hf⟩ := bcell hb1; have hz : w.heap.size < w1.heap.size := (by (have hq := hb1.size; (try simp only [World.size_alloc] at hq); omega)); replace r0 := r0.grow hb1; replace r4 := r4.grow hb1; replace r5 := r5.grow hb1; replace r6 := r6.grow hb1; replace r8 := r8.grow hb1; replace r9 := r9.grow hb1; replace hB := bt2 hB hb1)
  | (go_at_call 38; refine (isHost_c _ u.host _ r6).mono ?_; rintro e w1 ⟨rfl, rfl⟩)
  | (go_at_call 39; (first | (with_reducible refine (isUser_c _ u.user _ r4).mono ?_) | (with_reducible refine (isUser_c _ u.pass _ r5).mono ?_)); rintro e w1 ⟨rfl, rfl⟩)
  | (go_at_call 40; (first | (with_reducible refine (isParams_c _ u.ps _ _ r8).mono ?_) | (with_reducible refine (isParams_c _ u.hs _ _ r9).mono ?_)); rintro e w1 ⟨rfl, n, rfl⟩; replace r9 := r9.drewN n; replace hB := bt2 hB (below_drewN _ n)))
 all_goals (go_ret; refine ⟨ret_bool ?_, by first | exact hB | simpa only [World.drewN_drewN] using hB⟩; rw [HL.out]; simp only [sipB, sipsB]; go_light; clear hc hf r0 r4 r5 r6 r8 r9 hB HL)
 all_goals grind
theorem isUri_c (cs : Array Value) (u : Ur) (w : World) (h : UrR w cs u) :
 Calls Tryz.prog 19 #[.agg cs] w fun e w' => e = .returned (.bool (isUriB u)) ∧ Below w.heap.size w w' := by
 by_cases hps : 0 < u.ps.length
 ·exact isUri_c1 cs u w h hps
 ·exact isUri_c2 cs u w h hps
end Go.Proofs.YtfcllhdhfenmcaaGreatDoor
