/- Part 4 of the proof: laws and walks (merged by a program). -/
import Derived.Test.YtfcllhdhfenmcaaGreatDoorK01
import Derived.Test.YtfcllhdhfenmcaaGreatDoorK03
set_option linter.all false
set_option maxHeartbeats 8000000
set_option maxRecDepth 100000
namespace Go.Proofs.YtfcllhdhfenmcaaGreatDoor
open Go.RowKit Go.Proofs.Tryz
theorem zzFits4_c (a b : Value) (x : KV) (w : World) (ha : Bs w a x.k) (hb : Bs w b x.v) (h : x.Small) :
 Calls Tryz.prog 59 #[.agg #[a, b]] w fun e w' => e = .returned (.bool true) ∧ Below w.heap.size w w' := by
 obtain ⟨h1, h2⟩ := h
 obtain ⟨A, c, rfl⟩ := ha.shape
 obtain ⟨B, d, rfl⟩ := hb.shape
 go_enter func59, ntmps59
 go_wp2
 go_ret
 exact ⟨rfl, below_alloc _ _⟩
theorem zzFits3_c (v : Value) (l : List KV) (w : World) (h : KVs w v l) (hl : SmallKVs l) :
 Calls Tryz.prog 34 #[v] w fun e w' => e = .returned (.bool true) ∧ Below w.heap.size w w' := by
 obtain ⟨hl, hall⟩ := hl
 obtain ⟨A, cp, rfl, h1, h2, h3⟩ := h
 have H3 := Lib.hid h3; clear h3
 have HA := Lib.hid hall; clear hall
 go_enter func34, ntmps34
 go_wp2
 go_loopw [10] (fun v wr => ∃ k : Nat, k ≤ l.length ∧ v = .int .i64 k ∧ Below w.heap.size w wr) (fun v _ => l.length - (intOf v).toNat)
 case atStart => exact ⟨0, Nat.zero_le _, rfl, Below.refl _ _⟩
 case round =>
  obtain ⟨k, hk, rfl, hB⟩ := hrel
  by_cases hlt : k < l.length
  ·obtain ⟨b, o, rfl, hl0, hc⟩ := H3.out (by omega)
   obtain ⟨kv, vv, e1, e2, r1, r2⟩ := hc k hlt
   have e1' := (hB.cell (p := ⟨b, o + k * 2, none⟩) hl0).trans e1
   have e2' := (hB.cell (p := ⟨b, o + k * 2 + 1, none⟩) hl0).trans e2
   have r1' := r1.grow hB
   have r2' := r2.grow hB
   clear hc e1 e2 r1 r2
   obtain ⟨A1, c1, rfl⟩ := r1'.shape
   obtain ⟨A2, c2, rfl⟩ := r2'.shape
   go_wp2_with (go_at_call 59; refine (zzFits4_c _ _ (kvAt l k) _ (r1'.alloc _) (r2'.alloc _) (HA.out k hlt)).mono ?_; rintro e w1 ⟨rfl, hb1⟩)
   go_roundw
   case rel => exact ⟨k + 1, by omega, by go_num, below_then (hB.alloc hB.size _) (by have := hB.size; simp; omega) hb1⟩
   case measure => simp [intOf]; omega
  ·go_wp2
   go_ret
   exact ⟨rfl, hB⟩
theorem UrR.shapes {w : World} {cs : Array Value} {u : Ur} (h : UrR w cs u) : ∃ A0 n0 A1 n1 A4 n4 A5 n5 A6 n6 A8 n8 A9 n9,
 cs[0]? = some (.slice A0 u.scheme.length n0) ∧ cs[1]? = some (.slice A1 u.raw.length n1) ∧ cs[4]? = some (.slice A4 u.user.length n4) ∧ cs[5]? = some (.slice A5 u.pass.length n5) ∧
 cs[6]? = some (.slice A6 u.host.length n6) ∧ cs[8]? = some (.slice A8 u.ps.length n8) ∧ cs[9]? = some (.slice A9 u.hs.length n9) ∧
 Bs w (.slice A0 u.scheme.length n0) u.scheme ∧ Bs w (.slice A1 u.raw.length n1) u.raw ∧ Bs w (.slice A4 u.user.length n4) u.user ∧ Bs w (.slice A5 u.pass.length n5) u.pass ∧
 Bs w (.slice A6 u.host.length n6) u.host ∧ KVs w (.slice A8 u.ps.length n8) u.ps ∧ KVs w (.slice A9 u.hs.length n9) u.hs := by
 obtain ⟨v0, e0, r0⟩ := h.scheme
 obtain ⟨v1, e1, r1⟩ := h.raw
 obtain ⟨v4, e4, r4⟩ := h.user
 obtain ⟨v5, e5, r5⟩ := h.pass
 obtain ⟨v6, e6, r6⟩ := h.host
 obtain ⟨v8, e8, r8⟩ := h.ps
 obtain ⟨v9, e9, r9⟩ := h.hs
 obtain ⟨A0, n0, rfl⟩ := r0.shape
 obtain ⟨A1, n1, rfl⟩ := r1.shape
 obtain ⟨A4, n4, rfl⟩ := r4.shape
 obtain ⟨A5, n5, rfl⟩ := r5.shape
 obtain ⟨A6, n6, rfl⟩ := r6.shape
 obtain ⟨A8, n8, rfl⟩ := r8.shape
 obtain ⟨A9, n9, rfl⟩ := r9.shape
 exact ⟨A0, n0, A1, n1, A4, n4, A5, n5, A6, n6, A8, n8, A9, n9, e0, e1, e4, e5, e6, e8, e9, r0, r1, r4, r5, r6, r8, r9⟩
theorem zzFits2_c (cs : Array Value) (u : Ur) (w : World) (h : UrR w cs u) (hs : u.Small) :
 Calls Tryz.prog 15 #[.agg cs] w fun e w' => e = .returned (.bool true) ∧ Below w.heap.size w w' := by
 obtain ⟨s1, s2, s3, s4, s5, s6, s7⟩ := hs
 obtain ⟨A0, n0, A1, n1, A4, n4, A5, n5, A6, n6, A8, n8, A9, n9, e0, e1, e4, e5, e6, e8, e9, _, _, _, _, _, r8, r9⟩ := h.shapes
 have hsz := Lib.hid h.size
 clear h
 go_enter func15, ntmps15
 go_wp2_with fail
 refine (zzFits3_c _ u.ps _ (r8.alloc _) s6).mono ?_
 rintro e w1 ⟨rfl, hb1⟩
 obtain ⟨hc, hf⟩ := bcell hb1
 go_wp2_with fail
 refine (zzFits3_c _ u.hs _ ((r9.alloc _).grow hb1) s7).mono ?_
 rintro e w2 ⟨rfl, hb2⟩
 go_wp2_with fail
 go_ret
 refine ⟨rfl, ?_⟩
 exact below_then (below_then (below_alloc _ _) (by simp) hb1) (by have := hb1.size; simp at this; omega) hb2
end Go.Proofs.YtfcllhdhfenmcaaGreatDoor
