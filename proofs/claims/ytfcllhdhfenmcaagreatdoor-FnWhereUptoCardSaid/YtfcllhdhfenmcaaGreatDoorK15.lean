/- Part 15 of the proof: laws and walks (merged by a program). -/
import Derived.Test.YtfcllhdhfenmcaaGreatDoorK01
import Derived.Test.YtfcllhdhfenmcaaGreatDoorK02
import Derived.Test.YtfcllhdhfenmcaaGreatDoorK03
import Derived.Test.YtfcllhdhfenmcaaGreatDoorK04
import Derived.Test.YtfcllhdhfenmcaaGreatDoorK06
import Derived.Test.YtfcllhdhfenmcaaGreatDoorK09
set_option linter.all false
set_option maxHeartbeats 8000000
set_option maxRecDepth 100000
namespace Go.Proofs.YtfcllhdhfenmcaaGreatDoor
open Go.RowKit Go.Proofs.Tryz
structure PV where
 k : ByteArray
 v : ByteArray
deriving Inhabited
def pvAt (l : List PV) (i : Nat) : PV := l.getD i default
theorem pvAt_get (l : List PV) (i : Nat) (h : i < l.length) : pvAt l i = l[i] := getD_lt _ _ _ h
def Kt (w w' : World) : Prop := ∀ (k : Nat) (c : Array Value) (T : TypeId) (fr : Nat × Nat), w.heap[k]? = some (.cells c T fr) → T ≠ 111 → T ≠ 106 → T ≠ 81 → w'.heap[k]? = some (.cells c T fr)
theorem Kt.refl (w : World) : Kt w w := fun _ _ _ _ h _ _ _ => h
theorem Kt.trans {a b c : World} (h : Kt a b) (k : Kt b c) : Kt a c := fun _ _ _ _ e h1 h2 h3 => k _ _ _ _ (h _ _ _ _ e h1 h2 h3) h1 h2 h3
theorem Kt.of {w w' : World} (h : Below w.heap.size w w') : Kt w w' := fun k _ _ _ e _ _ _ => (h.block k (Array.getElem?_eq_some_iff.1 e).1).trans e
theorem Kt.alloc (w : World) (o : Obj) : Kt w (w.alloc o) := Kt.of (below_alloc w o)
def Kp (w w' : World) : Prop := ∀ (k : Nat) (c : Array Value) (fr : Nat × Nat), w.heap[k]? = some (.cells c 145 fr) → w'.heap[k]? = some (.cells c 145 fr)
theorem Kt.kp {w w' : World} (h : Kt w w') : Kp w w' := fun _ _ _ e => h _ _ _ _ e (by decide) (by decide) (by decide)
theorem Kp.of {w w' : World} (h : Below w.heap.size w w') : Kp w w' := (Kt.of h).kp
theorem Kp.trans {a b c : World} (h : Kp a b) (k : Kp b c) : Kp a c := fun _ _ _ e => k _ _ _ (h _ _ _ e)
theorem Kp.refl (w : World) : Kp w w := fun _ _ _ h => h
theorem Kp.setRow {w : World} {b k : Nat} {T : TypeId} (h : isRow w b T k) (hT : T ≠ 145) (c : Array Value) : Kp w (w.setRow b c) := fun j c' fr e => by
 obtain ⟨c0, h1, _⟩ := h
 have hj : j ≠ b := by
  rintro rfl
  rw [h1] at e
  injection e with e
  injection e with _ e _
  exact hT e
 rw [setRow_other _ _ _ _ hj]
 exact e
theorem Oth.kp {g : Nat} {w W : World} {C : Array Value} {T : TypeId} (h : Oth g w W) (hb : Blk w g C T) (hT : T ≠ 145) : Kp w W := fun k c fr e => by
 have hj : k ≠ g := by
  rintro rfl
  have := hb.symm.trans e
  injection this with e
  injection e with _ e _
  exact hT e
 rw [h.block k hj]
 exact e
theorem Oth.kt {g : Nat} {w W : World} {C : Array Value} {T : TypeId} (h : Oth g w W) (hb : Blk w g C T) (hT : T = 111 ∨ T = 106 ∨ T = 81) : Kt w W := fun k c T' fr e h1 h2 h3 => by
 have hj : k ≠ g := by
  rintro rfl
  have := hb.symm.trans e
  injection this with e
  injection e with _ e _
  subst e
  rcases hT with q | q | q
  ·exact h1 q
  ·exact h2 q
  ·exact h3 q
 rw [h.block k hj]
 exact e
def HPs (w : World) (v : Value) (l : List PV) : Prop :=
 ∃ A c, v = .slice A l.length c ∧ l.length ≤ c ∧ c ≤ 9223372036854775807 ∧ (0 < l.length → ∃ b o C fr, A = some ⟨b, o, none⟩ ∧ w.heap[b]? = some (.cells C 145 fr) ∧
  ∀ i, i < l.length → C[o + i * 2]? = some (.string (pvAt l i).k) ∧ C[o + i * 2 + 1]? = some (.string (pvAt l i).v))
theorem HPs.kp {w w' : World} {v : Value} {l : List PV} (h : HPs w v l) (hk : Kp w w') : HPs w' v l := by
 obtain ⟨A, c, rfl, h1, h2, h3⟩ := h
 refine ⟨A, c, rfl, h1, h2, fun h0 => ?_⟩
 obtain ⟨b, o, C, fr, rfl, hh, hc⟩ := h3 h0
 exact ⟨b, o, C, fr, rfl, hk _ _ _ hh, hc⟩
theorem HPs.kt {w w' : World} {v : Value} {l : List PV} (h : HPs w v l) (hk : Kt w w') : HPs w' v l := h.kp hk.kp
theorem HPs.grow {w w' : World} {v : Value} {l : List PV} (h : HPs w v l) (hb : Below w.heap.size w w') : HPs w' v l := h.kt (Kt.of hb)
theorem HPs.alloc {w : World} {v : Value} {l : List PV} (h : HPs w v l) (o : Obj) : HPs (w.alloc o) v l := h.kt (Kt.alloc w o)
theorem HPs.shape {w : World} {v : Value} {l : List PV} (h : HPs w v l) : ∃ A c, v = .slice A l.length c := by
 obtain ⟨A, c, rfl, _⟩ := h
 exact ⟨A, c, rfl⟩
theorem HPs.one {w : World} {v : Value} {l : List PV} (h : HPs w v l) : v.oneCell' = true := by obtain ⟨A, c, rfl⟩ := h.shape; rfl
theorem hps_nil (w : World) : HPs w (.slice none 0 0) [] := ⟨none, 0, rfl, Nat.le_refl _, by omega, fun h => absurd h (by simp)⟩
theorem HPs.cells {w : World} {A : Option Addr} {n c : Nat} {l : List PV} (h : HPs w (.slice A n c) l) (h0 : 0 < n) : ∃ b o, A = some ⟨b, o, none⟩ ∧ b < w.heap.size ∧ n = l.length ∧
 ∀ i, i < n → w.cell? ⟨b, o + i * 2, none⟩ = some (.string (pvAt l i).k) ∧ w.cell? ⟨b, o + i * 2 + 1, none⟩ = some (.string (pvAt l i).v) := by
 obtain ⟨A', c', e, h1, h2, h3⟩ := h
 injection e with e1 e2 e3
 subst e1; subst e2; subst e3
 obtain ⟨b, o, C, fr, rfl, hh, hc⟩ := h3 h0
 refine ⟨b, o, rfl, (Array.getElem?_eq_some_iff.1 hh).1, rfl, fun i hi => ?_⟩
 rw [cell_of_row _ _ _ _ _ fr hh, cell_of_row _ _ _ _ _ fr hh]
 exact hc i hi
structure SU where
 scheme : ByteArray
 raw : ByteArray
 star : Bool
 slashes : Bool
 user : ByteArray
 pass : ByteArray
 host : ByteArray
 port : Int
 ps : List PV
 hs : List PV
deriving Inhabited
structure SUR (w : World) (cs : Array Value) (u : SU) : Prop where
 size : cs.size = 10
 scheme : cs[0]? = some (.string u.scheme)
 raw : cs[1]? = some (.string u.raw)
 star : cs[2]? = some (.bool u.star)
 slashes : cs[3]? = some (.bool u.slashes)
 user : cs[4]? = some (.string u.user)
 pass : cs[5]? = some (.string u.pass)
 host : cs[6]? = some (.string u.host)
 port : cs[7]? = some (.int .i64 u.port)
 ps : ∃ v, cs[8]? = some v ∧ HPs w v u.ps
 hs : ∃ v, cs[9]? = some v ∧ HPs w v u.hs
 portLo : -9223372036854775808 ≤ u.port
 portHi : u.port ≤ 9223372036854775807
theorem ex_hps {w w' : World} {c : Option Value} {l : List PV} (h : ∃ v, c = some v ∧ HPs w v l) (hk : Kp w w') : ∃ v, c = some v ∧ HPs w' v l := by
 obtain ⟨v, h1, h2⟩ := h
 exact ⟨v, h1, h2.kp hk⟩
theorem SUR.kp {w w' : World} {cs : Array Value} {u : SU} (h : SUR w cs u) (hk : Kp w w') : SUR w' cs u :=
 ⟨h.size, h.scheme, h.raw, h.star, h.slashes, h.user, h.pass, h.host, h.port, ex_hps h.ps hk, ex_hps h.hs hk, h.portLo, h.portHi⟩
theorem SUR.kt {w w' : World} {cs : Array Value} {u : SU} (h : SUR w cs u) (hk : Kt w w') : SUR w' cs u := h.kp hk.kp
theorem SUR.grow {w w' : World} {cs : Array Value} {u : SU} (h : SUR w cs u) (hb : Below w.heap.size w w') : SUR w' cs u := h.kt (Kt.of hb)
theorem SUR.cell {w : World} {cs : Array Value} {u : SU} (h : SUR w cs u) (i : Nat) (hi : i < 10) : ∃ v, cs[i]? = some v ∧ v.oneCell' = true := by
 match i, hi with
 | 0, _ => exact ⟨_, h.scheme, rfl⟩
 | 1, _ => exact ⟨_, h.raw, rfl⟩
 | 2, _ => exact ⟨_, h.star, rfl⟩
 | 3, _ => exact ⟨_, h.slashes, rfl⟩
 | 4, _ => exact ⟨_, h.user, rfl⟩
 | 5, _ => exact ⟨_, h.pass, rfl⟩
 | 6, _ => exact ⟨_, h.host, rfl⟩
 | 7, _ => exact ⟨_, h.port, rfl⟩
 | 8, _ => obtain ⟨v, h1, h2⟩ := h.ps; exact ⟨_, h1, h2.one⟩
 | 9, _ => obtain ⟨v, h1, h2⟩ := h.hs; exact ⟨_, h1, h2.one⟩
theorem SUR.one {w : World} {cs : Array Value} {u : SU} (h : SUR w cs u) : cs.all (·.oneCell') = true := all_one h.size h.cell
theorem SUR.lit {w : World} {cs : Array Value} {u : SU} (h : SUR w cs u) : ∃ A n A' n', cs = #[.string u.scheme, .string u.raw, .bool u.star, .bool u.slashes, .string u.user, .string u.pass, .string u.host, .int .i64 u.port, .slice A u.ps.length n, .slice A' u.hs.length n'] ∧ HPs w (.slice A u.ps.length n) u.ps ∧ HPs w (.slice A' u.hs.length n') u.hs := by
 obtain ⟨v, h8, p8⟩ := h.ps
 obtain ⟨v', h9, p9⟩ := h.hs
 obtain ⟨A, n, rfl⟩ := p8.shape
 obtain ⟨A', n', rfl⟩ := p9.shape
 refine ⟨A, n, A', n', ?_, p8, p9⟩
 apply Array.ext_getElem?
 intro i
 by_cases hi : i < 10
 ·rcases (show i = 0 ∨ i = 1 ∨ i = 2 ∨ i = 3 ∨ i = 4 ∨ i = 5 ∨ i = 6 ∨ i = 7 ∨ i = 8 ∨ i = 9 by omega) with rfl | rfl | rfl | rfl | rfl | rfl | rfl | rfl | rfl | rfl
  ·exact h.scheme
  ·exact h.raw
  ·exact h.star
  ·exact h.slashes
  ·exact h.user
  ·exact h.pass
  ·exact h.host
  ·exact h.port
  ·exact h8
  ·exact h9
 ·rw [Array.getElem?_eq_none (by rw [h.size]; omega), Array.getElem?_eq_none (by simp; omega)]
theorem SUR.mk' {w : World} {u : SU} {A A' : Option Addr} {n m n' m' : Nat} (p8 : HPs w (.slice A m n) u.ps) (p9 : HPs w (.slice A' m' n') u.hs) (lo : -9223372036854775808 ≤ u.port) (hi : u.port ≤ 9223372036854775807) :
 SUR w #[.string u.scheme, .string u.raw, .bool u.star, .bool u.slashes, .string u.user, .string u.pass, .string u.host, .int .i64 u.port, .slice A m n, .slice A' m' n'] u :=
 ⟨rfl, rfl, rfl, rfl, rfl, rfl, rfl, rfl, rfl, ⟨_, rfl, p8⟩, ⟨_, rfl, p9⟩, lo, hi⟩
def toPV (x : KV) : PV := ⟨mk x.k, mk x.v⟩
def toSU (u : Ur) : SU := ⟨mk u.scheme, mk u.raw, u.star, u.slashes, mk u.user, mk u.pass, mk u.host, u.port, u.ps.map toPV, u.hs.map toPV⟩
theorem pvAt_map (l : List KV) (i : Nat) (h : i < l.length) : pvAt (l.map toPV) i = toPV (kvAt l i) := by
 rw [pvAt_get _ _ (by simpa using h), kvAt_get _ _ h]
 simp
def pvals (l : List PV) : List Value := l.flatMap fun x => [.string x.k, .string x.v]
theorem pvals_length (l : List PV) : (pvals l).length = l.length * 2 := by
 induction l with
 | nil => rfl
 | cons x t ih => simp only [pvals, List.flatMap_cons, List.length_append, List.length_cons, List.length_nil] at ih ⊢; omega
theorem pvals_append (l m : List PV) : pvals (l ++ m) = pvals l ++ pvals m := by simp [pvals]
theorem pvals_get (l : List PV) : ∀ i, i < l.length → (pvals l)[i * 2]? = some (.string (pvAt l i).k) ∧ (pvals l)[i * 2 + 1]? = some (.string (pvAt l i).v) := by
 induction l with
 | nil => intro i hi; simp at hi
 | cons x t ih =>
   intro i hi
   have hp : pvals (x :: t) = .string x.k :: .string x.v :: pvals t := rfl
   cases i with
   | zero => rw [hp]; exact ⟨rfl, rfl⟩
   | succ i =>
     have := ih i (by simpa using hi)
     have he : pvAt (x :: t) (i + 1) = pvAt t i := rfl
     rw [hp, he, show (i + 1) * 2 = i * 2 + 1 + 1 by omega]
     simp only [List.getElem?_cons_succ]
     exact this
def Pw (base : Nat) (w : World) (v : Value) (l : List PV) : Prop := w.ownsRow base 145 2 v l.length (pvals l)
theorem pw_nil (base : Nat) (w : World) : Pw base w (.slice none 0 0) [] := ⟨rfl, .inl ⟨rfl, rfl⟩⟩
theorem Pw.hps {base : Nat} {w : World} {v : Value} {l : List PV} (h : Pw base w v l) : HPs w v l := by
 obtain ⟨hl, ⟨rfl, h0⟩ | ⟨g, cap, cur, rfl, hb, hh, h1, h2, h3, h4⟩⟩ := h
 ·have : l = [] := List.eq_nil_of_length_eq_zero h0
  subst this
  exact hps_nil w
 ·refine ⟨_, cap, rfl, h1, by unfold maxLen at h2; omega, fun _ => ⟨g, 0, cur, _, rfl, hh, fun i hi => ?_⟩⟩
  obtain ⟨e1, e2⟩ := pvals_get l i hi
  rw [← h4, List.getElem?_take_of_lt (by omega)] at e1
  rw [← h4, List.getElem?_take_of_lt (by omega)] at e2
  rw [Nat.zero_add]
  exact ⟨by simpa using e1, by simpa using e2⟩
theorem Pw.base_le {base : Nat} {w : World} {v : Value} {l : List PV} (h : Pw base w v l) (k : Nat) (hk : v.ownBlock = some k) : base ≤ k := by
 obtain ⟨_, ⟨rfl, _⟩ | ⟨g, cap, cur, rfl, hb, _⟩⟩ := h
 ·simp [Value.ownBlock] at hk
 ·have : g = k := by simpa [Value.ownBlock] using hk
  omega
theorem Pw.grow {base : Nat} {w w' : World} {v : Value} {l : List PV} (h : Pw base w v l) (hb : Below w.heap.size w w') : Pw base w' v l := by
 obtain ⟨hl, h | ⟨g, cap, cur, rfl, hb', hh, r⟩⟩ := h
 ·exact ⟨hl, .inl h⟩
 ·exact ⟨hl, .inr ⟨g, cap, cur, rfl, hb', (hb.block g (Array.getElem?_eq_some_iff.1 hh).1).trans hh, r⟩⟩
theorem infoPV : (Tryz.prog.info? 145).map (fun i => (i.zero, i.size, i.bytes)) = some (some (.agg #[.string ⟨#[]⟩, .string ⟨#[]⟩]), 2, 32) := by kernel_rfl
theorem append_pv {ops : Array Oper} {rest : List Oper} {o : Oper} {a : Act} {w0 W : World} {Q : Exit → Act → World → Prop} (hgd : o.guard = none) (s x : Operand)
 (ho : o.op = .call { callee := .builtin .append, args := #[s, x], argTypes := #[72, 72] })
 (base : Nat) (v : Value) (l : List PV) (y : PV) (hs : a.eval s = v) (ad : Addr) (c : Nat) (hx : a.eval x = .slice (some ad) 1 c)
 (e0 : W.cell? ad = some (.string y.k)) (e1 : W.cell? (ad.add 1) = some (.string y.v))
 (HO : Pw base W v l) (HB : Below base w0 W) (hbase : base ≤ W.heap.size) (hlen : l.length + 1 ≤ 4000000000000)
 (h : ∀ v1 W1, Pw base W1 v1 (l ++ [y]) → Below base w0 W1 → W.heap.size ≤ W1.heap.size → W.grownBy W1 v.ownBlock → wpList Tryz.prog ops Q rest (a.put o.dst v1) W1) :
 wpList Tryz.prog ops Q (o :: rest) a W := by
 obtain ⟨i0, hi, hzz⟩ := Option.map_eq_some_iff.1 infoPV
 simp only [Prod.mk.injEq] at hzz
 obtain ⟨hz0, hz1, hz2⟩ := hzz
 have HO' := HO
 refine wpList_append_own W hgd s x 72 ho base 145 i0 _ 2 32 underlying72 hi hz0 hz1 hz2 rfl (by decide) v l.length (pvals l) hs HO ad 1 c [.string y.k, .string y.v] hx rfl ?_ ?_ (by unfold maxLen; omega) (by omega) hbase ?_
 ·intro j u hu
  match j, hu with
  | 0, hu => rw [show ad.add 0 = ad from rfl, e0]; exact hu
  | 1, hu => rw [e1]; exact hu
  | k + 2, hu => simp at hu
 ·intro u hu
  simp only [List.mem_cons, List.not_mem_nil, or_false] at hu
  rcases hu with rfl | rfl <;> rfl
 ·intro v1 W1 hown hg _
  refine h v1 W1 ?_ (HB.grown hg hbase fun k hk => HO'.base_le k hk) hg.size hg
  unfold Pw
  rw [List.length_append, pvals_append]
  exact hown
theorem params_c (v : Value) (l : List KV) (w : World) (h : KVs w v l) (hl : l.length ≤ 1048576) :
 Calls Tryz.prog 71 #[v] w fun e w' => ∃ r, e = .returned r ∧ Pw w.heap.size w' r (l.map toPV) ∧ Below w.heap.size w w' := by
 obtain ⟨A, cp, rfl, h1, h2, h3⟩ := h
 have H3 := Lib.hid h3; clear h3
 go_enter func71, ntmps71
 go_wp2
 go_loopw [3, 8] (fun out i wr => ∃ k : Nat, k ≤ l.length ∧ i = .int .i64 k ∧ Pw w.heap.size wr out ((l.take k).map toPV) ∧ Below w.heap.size w wr) (fun _ i _ => l.length - (intOf i).toNat)
 case atStart => exact ⟨0, Nat.zero_le _, rfl, pw_nil _ _, Below.refl _ _⟩
 case round =>
  obtain ⟨k, hk, rfl, HO, hB⟩ := hrel
  by_cases hlt : k < l.length
  ·obtain ⟨b, o, rfl, hl0, hc⟩ := H3.out (by omega)
   obtain ⟨kv, vv, e1, e2, r1, r2⟩ := hc k hlt
   clear hc
   replace e1 := (hB.cell (p := ⟨b, o + k * 2, none⟩) hl0).trans e1
   replace e2 := (hB.cell (p := ⟨b, o + k * 2 + 1, none⟩) hl0).trans e2
   replace r1 := r1.grow hB
   replace r2 := r2.grow hB
   have q1 := fun (o : Obj) => conv_bytes (P := Tryz.prog) (r1.alloc o) 22 5 9 underlying22 underlying5 underlying9
   have q2 := fun (o : Obj) => conv_bytes (P := Tryz.prog) (r2.alloc o) 22 5 9 underlying22 underlying5 underlying9
   obtain ⟨A1, c1, rfl⟩ := r1.shape
   obtain ⟨A2, c2, rfl⟩ := r2.shape
   clear r1 r2
   have hbase := hB.size
   have hstep : Hid ((l.take (k + 1)).map toPV = (l.take k).map toPV ++ [toPV (kvAt l k)]) := by
    unfold Hid
    rw [List.take_succ_eq_append_getElem hlt, List.map_append, kvAt_get _ _ hlt]; rfl
   have hlen : ((l.take k).map toPV).length ≤ k := by simp; omega
   go_wp2_with (at_builtin; refine append_pv (w0 := w) (o := ⟨_, .call { callee := .builtin .append, args := #[.tmp 12, .tmp 20], argTypes := _ }, _, _, _, _⟩) rfl _ _ rfl w.heap.size _ _ (toPV (kvAt l k)) rfl _ _ rfl (by go_simp; rfl) (by go_simp; rfl) ((HO.grow (below_alloc _ _)).grow (below_alloc _ _)) ((hB.alloc hbase _).alloc (by simp; omega) _) (by simp; omega) (by omega) ?_; intro v2 W2 ho2 hB2 hs2 _)
   go_roundw
   case rel =>
    refine ⟨k + 1, by omega, by go_num, ?_, hB2⟩
    rw [hstep.out]
    exact ho2
   case measure => simp [intOf]; omega
  ·obtain rfl : k = l.length := by omega
   rw [List.take_length] at HO
   go_wp2
   go_ret
   exact ⟨_, rfl, HO, hB⟩
structure SH where
 t : Nat
 s1 : ByteArray
 s2 : ByteArray
 s3 : ByteArray
 s4 : ByteArray
 n : Int
 u : SU
 ps : List PV
deriving Inhabited
def tyPl : List TypeId := [159, 92, 91, 94, 93, 95, 100, 129, 96, 90, 97, 98, 99, 155, 157]
def tyBl : List TypeId := [161, 147, 148, 149, 124, 126, 127, 128, 130, 151, 131, 153, 154, 156, 158]
def tyP (t : Nat) : TypeId := tyPl.getD t 159
def tyB (t : Nat) : TypeId := tyBl.getD t 161
theorem tyB_ne (t : Nat) : tyB t ≠ 111 ∧ tyB t ≠ 106 ∧ tyB t ≠ 81 := by
 by_cases h : t < 15
 ·have : ∀ t, t < 15 → (tyB t ≠ 111 ∧ tyB t ≠ 106 ∧ tyB t ≠ 81) := by decide
  exact this t h
 ·have : tyB t = 161 := by
   unfold tyB
   rw [List.getD_eq_getElem?_getD, List.getElem?_eq_none (by show 15 ≤ t; omega)]
   rfl
  rw [this]
  decide
def sAddr (t : Nat) : Prop := t = 1 ∨ t = 2 ∨ t = 3 ∨ t = 14
def sRoute (t : Nat) : Prop := t = 11 ∨ t = 12 ∨ t = 13
def sText (t : Nat) : Prop := t = 4 ∨ t = 10
def sNum (t : Nat) : Prop := t = 6 ∨ t = 7 ∨ t = 8
structure AddrR (w : World) (cs : Array Value) (x : SH) : Prop where
 size : cs.size = 12
 disp : cs[0]? = some (.string x.s1)
 u : SUR w (cs.extract 1 11) x.u
 ps : ∃ v, cs[11]? = some v ∧ HPs w v x.ps
structure ViaR (w : World) (cs : Array Value) (x : SH) : Prop where
 size : cs.size = 6
 proto : cs[0]? = some (.string x.s1)
 ver : cs[1]? = some (.string x.s2)
 tr : cs[2]? = some (.string x.s3)
 host : cs[3]? = some (.string x.s4)
 port : cs[4]? = some (.int .i64 x.n)
 ps : ∃ v, cs[5]? = some v ∧ HPs w v x.ps
 lo : -9223372036854775808 ≤ x.n
 hi : x.n ≤ 9223372036854775807
structure NumR (cs : Array Value) (x : SH) : Prop where
 cells : cs = #[.int .u32 x.n]
 lo : 0 ≤ x.n
 hi : x.n ≤ 4294967295
structure SeqR (cs : Array Value) (x : SH) : Prop where
 cells : cs = #[.int .u32 x.n, .string x.s1]
 lo : 0 ≤ x.n
 hi : x.n ≤ 4294967295
structure SHR (w : World) (cs : Array Value) (x : SH) : Prop where
 sort : x.t ≤ 14
 addr : sAddr x.t → AddrR w cs x
 route : sRoute x.t → SUR w cs x.u
 text : sText x.t → cs = #[.string x.s1]
 num : sNum x.t → NumR cs x
 seq : x.t = 5 → SeqR cs x
 via : x.t = 9 → ViaR w cs x
 gen : x.t = 0 → cs = #[.string x.s1, .string x.s2]
theorem SHR.of_addr {w : World} {cs : Array Value} {x : SH} (ht : sAddr x.t) (h : AddrR w cs x) : SHR w cs x := by
 unfold sAddr at ht
 exact ⟨by omega, fun _ => h, fun c => absurd c (by (try unfold sRoute); omega), fun c => absurd c (by (try unfold sText); omega), fun c => absurd c (by (try unfold sNum); omega), fun c => absurd c (by omega), fun c => absurd c (by omega), fun c => absurd c (by omega)⟩
theorem SHR.of_route {w : World} {cs : Array Value} {x : SH} (ht : sRoute x.t) (h : SUR w cs x.u) : SHR w cs x := by
 unfold sRoute at ht
 exact ⟨by omega, fun c => absurd c (by (try unfold sAddr); omega), fun _ => h, fun c => absurd c (by (try unfold sText); omega), fun c => absurd c (by (try unfold sNum); omega), fun c => absurd c (by omega), fun c => absurd c (by omega), fun c => absurd c (by omega)⟩
theorem SHR.of_text {w : World} {cs : Array Value} {x : SH} (ht : sText x.t) (h : cs = #[.string x.s1]) : SHR w cs x := by
 unfold sText at ht
 exact ⟨by omega, fun c => absurd c (by (try unfold sAddr); omega), fun c => absurd c (by (try unfold sRoute); omega), fun _ => h, fun c => absurd c (by (try unfold sNum); omega), fun c => absurd c (by omega), fun c => absurd c (by omega), fun c => absurd c (by omega)⟩
theorem SHR.of_num {w : World} {cs : Array Value} {x : SH} (ht : sNum x.t) (h : NumR cs x) : SHR w cs x := by
 unfold sNum at ht
 exact ⟨by omega, fun c => absurd c (by (try unfold sAddr); omega), fun c => absurd c (by (try unfold sRoute); omega), fun c => absurd c (by (try unfold sText); omega), fun _ => h, fun c => absurd c (by omega), fun c => absurd c (by omega), fun c => absurd c (by omega)⟩
theorem SHR.of_seq {w : World} {cs : Array Value} {x : SH} (ht : x.t = 5) (h : SeqR cs x) : SHR w cs x := by
 exact ⟨by omega, fun c => absurd c (by (try unfold sAddr); omega), fun c => absurd c (by (try unfold sRoute); omega), fun c => absurd c (by (try unfold sText); omega), fun c => absurd c (by (try unfold sNum); omega), fun _ => h, fun c => absurd c (by omega), fun c => absurd c (by omega)⟩
theorem SHR.of_via {w : World} {cs : Array Value} {x : SH} (ht : x.t = 9) (h : ViaR w cs x) : SHR w cs x := by
 exact ⟨by omega, fun c => absurd c (by (try unfold sAddr); omega), fun c => absurd c (by (try unfold sRoute); omega), fun c => absurd c (by (try unfold sText); omega), fun c => absurd c (by (try unfold sNum); omega), fun c => absurd c (by omega), fun _ => h, fun c => absurd c (by omega)⟩
theorem SHR.of_gen {w : World} {cs : Array Value} {x : SH} (ht : x.t = 0) (h : cs = #[.string x.s1, .string x.s2]) : SHR w cs x := by
 exact ⟨by omega, fun c => absurd c (by (try unfold sAddr); omega), fun c => absurd c (by (try unfold sRoute); omega), fun c => absurd c (by (try unfold sText); omega), fun c => absurd c (by (try unfold sNum); omega), fun c => absurd c (by omega), fun c => absurd c (by omega), fun _ => h⟩
theorem AddrR.kp {w w' : World} {cs : Array Value} {x : SH} (h : AddrR w cs x) (hk : Kp w w') : AddrR w' cs x := ⟨h.size, h.disp, h.u.kp hk, ex_hps h.ps hk⟩
theorem ViaR.kp {w w' : World} {cs : Array Value} {x : SH} (h : ViaR w cs x) (hk : Kp w w') : ViaR w' cs x := ⟨h.size, h.proto, h.ver, h.tr, h.host, h.port, ex_hps h.ps hk, h.lo, h.hi⟩
theorem SHR.kp {w w' : World} {cs : Array Value} {x : SH} (h : SHR w cs x) (hk : Kp w w') : SHR w' cs x :=
 ⟨h.sort, fun q => (h.addr q).kp hk, fun q => (h.route q).kp hk, h.text, h.num, h.seq, fun q => (h.via q).kp hk, h.gen⟩
def HObj (w : World) (v : Value) (x : SH) : Prop := ∃ b cs, v = .iface (tyP x.t) (.pointer (some ⟨b, 0, none⟩)) ∧ w.heap[b]? = some (.cells cs (tyB x.t) (0, 0)) ∧ SHR w cs x
theorem HObj.kt {w w' : World} {v : Value} {x : SH} (h : HObj w v x) (hk : Kt w w') : HObj w' v x := by
 obtain ⟨b, cs, rfl, h1, h2⟩ := h
 have := tyB_ne x.t
 exact ⟨b, cs, rfl, hk _ _ _ _ h1 this.1 this.2.1 this.2.2, h2.kp hk.kp⟩
theorem HObj.grow {w w' : World} {v : Value} {x : SH} (h : HObj w v x) (hb : Below w.heap.size w w') : HObj w' v x := h.kt (Kt.of hb)
theorem HObj.shape {w : World} {v : Value} {x : SH} (h : HObj w v x) : ∃ b, v = .iface (tyP x.t) (.pointer (some ⟨b, 0, none⟩)) ∧ b < w.heap.size ∧ x.t ≤ 14 := by
 obtain ⟨b, cs, rfl, h1, h2⟩ := h
 exact ⟨b, rfl, (Array.getElem?_eq_some_iff.1 h1).1, h2.sort⟩
theorem HObj.one {w : World} {v : Value} {x : SH} (h : HObj w v x) : v.oneCell' = true := by obtain ⟨b, rfl, _⟩ := h.shape; rfl
theorem AddrR.lit {w : World} {d : ByteArray} {u : SU} {ps : List PV} {A A' B : Option Addr} {m n m' n' k l : Nat} (h8 : HPs w (.slice A m n) u.ps) (h9 : HPs w (.slice A' m' n') u.hs) (hp : HPs w (.slice B k l) ps)
 (lo : -9223372036854775808 ≤ u.port) (hi : u.port ≤ 9223372036854775807) (x : SH) (e1 : x.s1 = d) (e2 : x.u = u) (e3 : x.ps = ps) :
 AddrR w #[.string d, .string u.scheme, .string u.raw, .bool u.star, .bool u.slashes, .string u.user, .string u.pass, .string u.host, .int .i64 u.port, .slice A m n, .slice A' m' n', .slice B k l] x := by
 subst e1; subst e2; subst e3
 exact ⟨rfl, rfl, SUR.mk' h8 h9 lo hi, _, rfl, hp⟩
def toSHu (h : Hd) (u : SU) : SH :=
 if addressed h.t then { (default : SH) with t := h.t.toNat, s1 := mk h.disp, u := u, ps := h.ps.map toPV }
 else if routed h.t then { (default : SH) with t := h.t.toNat, u := u }
 else if numbered h.t then { (default : SH) with t := h.t.toNat, n := h.num }
 else if h.t = 4 ∨ h.t = 10 then { (default : SH) with t := h.t.toNat, s1 := mk h.text }
 else if h.t = 5 then { (default : SH) with t := 5, n := h.num, s1 := mk h.text }
 else if h.t = 9 then { (default : SH) with t := 9, s1 := mk h.proto, s2 := mk h.ver, s3 := mk h.tr, s4 := mk h.host, n := h.port, ps := h.ps.map toPV }
 else { (default : SH) with t := 0, s1 := mk h.name, s2 := mk h.text }
def toSH (h : Hd) : SH := toSHu h (toSU h.uri)
def AddrOK (w0 : World) (u : Ur) : Prop := ∀ (cs : Array Value) (w : World), Below w0.heap.size w0 w → UrR w cs u → Calls Tryz.prog 51 #[.agg cs] w fun e w' => ∃ cs' u', e = .returned (.agg cs') ∧ SUR w' cs' u' ∧ (u.raw = [] → u' = toSU u) ∧ (u'.ps.length ≤ 4000000000000 ∧ u'.hs.length ≤ 4000000000000) ∧ Below w.heap.size w w'
theorem AddrOK.mono {w0 w1 : World} {u : Ur} (h : AddrOK w0 u) (hb : Below w0.heap.size w0 w1) : AddrOK w1 u := fun cs w hw hu => h cs w (hb.trans (hw.mono hb.size)) hu
theorem conv_b {W : World} {v : Value} {l : By} (h : Bs W v l) : (convert 22 9 v).run Tryz.prog W = .ok (.string (mk l)) W :=
 conv_bytes h 22 5 9 underlying22 underlying5 underlying9
theorem address_c0 (cs : Array Value) (u : Ur) (w : World) (h : UrR w cs u) (hsm : u.Small) (h0 : u.raw = []) :
 Calls Tryz.prog 51 #[.agg cs] w fun e w' => ∃ cs', e = .returned (.agg cs') ∧ SUR w' cs' (toSU u) ∧ Below w.heap.size w w' := by
 have HSM := Lib.hid hsm; clear hsm
 obtain ⟨A0, n0, A1, n1, A4, n4, A5, n5, A6, n6, A8, n8, A9, n9, e0, e1, e4, e5, e6, e8, e9, r0, r1, r4, r5, r6, r8, r9⟩ := h.shapes
 have e2 := h.star
 have e3 := h.slashes
 have e7 := h.port
 have p0 := h.portLo
 have p1 := h.portHi
 clear h
 rw [h0] at e1 r1
 have H0 := Lib.hid h0; clear h0
 obtain ⟨W0, hW0⟩ : ∃ W0, W0 = (w.alloc (.cells cs 25)).alloc (.cells #[.string ⟨#[]⟩, .string ⟨#[]⟩, .bool false, .bool false, .string ⟨#[]⟩, .string ⟨#[]⟩, .string ⟨#[]⟩, .int .i64 0, .slice none 0 0, .slice none 0 0] 74) := ⟨_, rfl⟩
 have HR : Hid (∀ wr, Below (w.heap.size + 1) W0 wr → KVs wr (.slice A8 u.ps.length n8) u.ps ∧ KVs wr (.slice A9 u.hs.length n9) u.hs ∧ Below w.heap.size w wr) := fun wr hB => by
  subst hW0
  have hb : Below w.heap.size w wr := ((below_alloc w _).trans ((below_alloc _ _).mono (by simp))).trans (hB.mono (by simp))
  exact ⟨r8.grow hb, r9.grow hb, hb⟩
 have HC : Hid (∀ wr, Below (w.heap.size + 1) W0 wr → w.heap.size < wr.heap.size ∧ wr.cell? ⟨w.heap.size, 0, none⟩ = some (.slice A0 u.scheme.length n0) ∧ wr.cell? ⟨w.heap.size, 2, none⟩ = some (.bool u.star) ∧ wr.cell? ⟨w.heap.size, 3, none⟩ = some (.bool u.slashes) ∧ wr.cell? ⟨w.heap.size, 4, none⟩ = some (.slice A4 u.user.length n4) ∧ wr.cell? ⟨w.heap.size, 5, none⟩ = some (.slice A5 u.pass.length n5) ∧ wr.cell? ⟨w.heap.size, 6, none⟩ = some (.slice A6 u.host.length n6) ∧ wr.cell? ⟨w.heap.size, 7, none⟩ = some (.int .i64 u.port) ∧ wr.cell? ⟨w.heap.size, 8, none⟩ = some (.slice A8 u.ps.length n8) ∧ wr.cell? ⟨w.heap.size, 9, none⟩ = some (.slice A9 u.hs.length n9)
  ∧ (convert 22 9 (.slice A0 u.scheme.length n0)).run Tryz.prog wr = .ok (.string (mk u.scheme)) wr ∧ (convert 22 9 (.slice A4 u.user.length n4)).run Tryz.prog wr = .ok (.string (mk u.user)) wr ∧ (convert 22 9 (.slice A5 u.pass.length n5)).run Tryz.prog wr = .ok (.string (mk u.pass)) wr ∧ (convert 22 9 (.slice A6 u.host.length n6)).run Tryz.prog wr = .ok (.string (mk u.host)) wr) := fun wr hB => by
  have hn := cells_new w cs 25 (0, 0)
  have hsz := hB.size
  have hl : w.heap.size < W0.heap.size := by rw [hW0]; simp; omega
  have hb : Below w.heap.size w wr := by subst hW0; exact ((below_alloc w _).trans ((below_alloc _ _).mono (by simp))).trans (hB.mono (by simp))
  have q : ∀ j v, cs[j]? = some v → wr.cell? ⟨w.heap.size, j, none⟩ = some v := fun j v hv => by
   rw [hB.cell (p := ⟨w.heap.size, j, none⟩) (by show w.heap.size < _; omega), hW0, (below_alloc _ _).cell (p := ⟨w.heap.size, j, none⟩) (by simp)]
   simpa using hn j v hv
  exact ⟨by omega, q _ _ e0, q _ _ e2, q _ _ e3, q _ _ e4, q _ _ e5, q _ _ e6, q _ _ e7, q _ _ e8, q _ _ e9, conv_b (r0.grow hb), conv_b (r4.grow hb), conv_b (r5.grow hb), conv_b (r6.grow hb)⟩
 have hB0 : Below (w.heap.size + 1) W0 W0 := Below.refl _ _
 have hW0s : W0.heap.size = w.heap.size + 2 := by rw [hW0]; simp
 have hT0 : isRow W0 (w.heap.size + 1) 74 10 := by rw [hW0]; simpa using isRow_alloc (w.alloc (.cells cs 25)) #[.string ⟨#[]⟩, .string ⟨#[]⟩, .bool false, .bool false, .string ⟨#[]⟩, .string ⟨#[]⟩, .string ⟨#[]⟩, .int .i64 0, .slice none 0 0, .slice none 0 0] 74
 have l8 := HSM.out.ps.len
 have l9 := HSM.out.hs.len
 have HW0 := Lib.hid hW0
 have HP : Hid (-9223372036854775808 ≤ u.port ∧ u.port ≤ 9223372036854775807) := ⟨p0, p1⟩
 have L89 : Hid (u.ps.length ≤ 1048576 ∧ u.hs.length ≤ 1048576) := ⟨l8, l9⟩
 clear e0 e2 e3 e4 e5 e6 e7 e8 e9 r0 r1 r4 r5 r6 r8 r9 p0 p1 l8 l9 hW0
 go_enter func51, ntmps51
 go_wp2_with fail
 rw [← HW0.out]
 clear HW0 e1
 refine wp_region_noPanic ?_
 have hS0 := hB0.drew
 have hz0 := hS0.size
 refine wp_region_held_drew (S := fun w' => Below (w.heap.size + 1) W0 w') (by kernel_rfl) hS0 (fun _ => ?_)
 replace hT0 := hT0.grow (below_drew1 _)
 refine tk 0 (.pointer (some ⟨w.heap.size, 0, none⟩)) rfl yR hS0 ?_
 refine tk 1 (.slice A0 u.scheme.length n0) rfl (yL underlying22 (fun w h => (HC.out w h).2.1)) hS0 ?_
 refine tk 2 (.string (mk u.scheme)) rfl (yE 22 9 (.slice A0 u.scheme.length n0) (fun w h => (HC.out w h).2.2.2.2.2.2.2.2.2.2.1)) hS0 ?_
 refine tk 3 (.pointer (some ⟨w.heap.size, 2, none⟩)) rfl yR hS0 ?_
 refine tk 4 (.bool u.star) rfl (yL underlying4 (fun w h => (HC.out w h).2.2.1)) hS0 ?_
 refine tk 5 (.pointer (some ⟨w.heap.size, 3, none⟩)) rfl yR hS0 ?_
 refine tk 6 (.bool u.slashes) rfl (yL underlying4 (fun w h => (HC.out w h).2.2.2.1)) hS0 ?_
 refine tk 7 (.pointer (some ⟨w.heap.size, 4, none⟩)) rfl yR hS0 ?_
 refine tk 8 (.slice A4 u.user.length n4) rfl (yL underlying22 (fun w h => (HC.out w h).2.2.2.2.1)) hS0 ?_
 refine tk 9 (.string (mk u.user)) rfl (yE 22 9 (.slice A4 u.user.length n4) (fun w h => (HC.out w h).2.2.2.2.2.2.2.2.2.2.2.1)) hS0 ?_
 refine tk 10 (.pointer (some ⟨w.heap.size, 5, none⟩)) rfl yR hS0 ?_
 refine tk 11 (.slice A5 u.pass.length n5) rfl (yL underlying22 (fun w h => (HC.out w h).2.2.2.2.2.1)) hS0 ?_
 refine tk 12 (.string (mk u.pass)) rfl (yE 22 9 (.slice A5 u.pass.length n5) (fun w h => (HC.out w h).2.2.2.2.2.2.2.2.2.2.2.2.1)) hS0 ?_
 refine tk 13 (.pointer (some ⟨w.heap.size, 6, none⟩)) rfl yR hS0 ?_
 refine tk 14 (.slice A6 u.host.length n6) rfl (yL underlying22 (fun w h => (HC.out w h).2.2.2.2.2.2.1)) hS0 ?_
 refine tk 15 (.string (mk u.host)) rfl (yE 22 9 (.slice A6 u.host.length n6) (fun w h => (HC.out w h).2.2.2.2.2.2.2.2.2.2.2.2.2)) hS0 ?_
 refine tk 16 (.pointer (some ⟨w.heap.size, 7, none⟩)) rfl yR hS0 ?_
 refine tk 17 (.int .i64 u.port) rfl (yL underlying3 (fun w h => (HC.out w h).2.2.2.2.2.2.2.1)) hS0 ?_
 refine tk 18 (.pointer (some ⟨w.heap.size, 8, none⟩)) rfl yR hS0 ?_
 refine tk 19 (.slice A8 u.ps.length n8) rfl (yL underlying23 (fun w h => (HC.out w h).2.2.2.2.2.2.2.2.1)) hS0 ?_
 refine tk 21 (.pointer (some ⟨w.heap.size, 9, none⟩)) rfl yR hS0 ?_
 refine tk 22 (.slice A9 u.hs.length n9) rfl (yL underlying23 (fun w h => (HC.out w h).2.2.2.2.2.2.2.2.2.1)) hS0 ?_
 refine rd 20 rfl (fun K hK => ?_)
 refine sC func71 #[.slice A8 u.ps.length n8] (params_c _ u.ps _ (HR.out _ hS0).1 L89.out.1) ?_
 rintro e w1 ⟨r1, rfl, hr1, hb1⟩
 refine ⟨_, rfl, ?_⟩
 obtain ⟨hS1, hz1⟩ := zB hS0 hb1
 replace hT0 := hT0.grow hb1
 obtain ⟨Ap, np, rfl⟩ := hr1.hps.shape
 refine sh hK hS1 ?_
 clear hK K
 refine rd 23 rfl (fun K hK => ?_)
 refine sC func71 #[.slice A9 u.hs.length n9] (params_c _ u.hs _ (HR.out _ hS1).2.1 L89.out.2) ?_
 rintro e w2 ⟨r2, rfl, hr2, hb2⟩
 refine ⟨_, rfl, ?_⟩
 obtain ⟨hS2, hz2⟩ := zB hS1 hb2
 replace hT0 := hT0.grow hb2
 replace hr1 := hr1.grow hb2
 obtain ⟨Aq, nq, rfl⟩ := hr2.hps.shape
 refine sh hK hS2 ?_
 clear hK K
 refine tk 24 (.agg #[.string (mk u.scheme), .string ⟨#[]⟩, .bool u.star, .bool u.slashes, .string (mk u.user), .string (mk u.pass), .string (mk u.host), .int .i64 u.port, .slice Ap (u.ps.map toPV).length np, .slice Aq (u.hs.map toPV).length nq]) rfl yR hS2 ?_
 refine rd 25 rfl (fun K hK => ?_)
 refine sR (w.heap.size + 1) #[.string (mk u.scheme), .string ⟨#[]⟩, .bool u.star, .bool u.slashes, .string (mk u.user), .string (mk u.pass), .string (mk u.host), .int .i64 u.port, .slice Ap (u.ps.map toPV).length np, .slice Aq (u.hs.map toPV).length nq] 74 hT0 infoSU ?_
 obtain ⟨w3, hw3⟩ : ∃ W, W = World.setRow w2 (w.heap.size + 1) (#[.string (mk u.scheme), .string ⟨#[]⟩, .bool u.star, .bool u.slashes, .string (mk u.user), .string (mk u.pass), .string (mk u.host), .int .i64 u.port, .slice Ap (u.ps.map toPV).length np, .slice Aq (u.hs.map toPV).length nq]) := ⟨_, rfl⟩
 rw [← hw3]
 have hS3 : Below (w.heap.size + 1) W0 w3 := by rw [hw3]; exact hS2.trans (below_setRow (w.heap.size + 1) _ (w.heap.size + 1) _ (by omega))
 have hz3 := hS3.size
 replace hw3 := Lib.hid hw3
 refine sh hK hS3 ?_
 clear hK K
 refine wpAnyH_done (by kernel_rfl) ?_ _
 refine NoPanic.normal ?_
 go_wp2
 have hT2' := hT0
 obtain ⟨c0, hc0, _⟩ := hT0
 have hc1 := setRow_heap w2 (w.heap.size + 1) c0 #[.string (mk u.scheme), .string ⟨#[]⟩, .bool u.star, .bool u.slashes, .string (mk u.user), .string (mk u.pass), .string (mk u.host), .int .i64 u.port, .slice Ap (u.ps.map toPV).length np, .slice Aq (u.hs.map toPV).length nq] _ _ hc0
 rw [← hw3.out] at hc1
 refine bodyPost_ret (results_cell_row rfl _ _ _ _ _ _ _ rfl hc1 underlying74 rfl infoSU) rfl ⟨_, rfl, ?_, ?_⟩
 ·have q1 := hr1.hps
  have q2 := hr2.hps
  have hk2 := Kp.setRow hT2' (by decide) #[.string (mk u.scheme), .string ⟨#[]⟩, .bool u.star, .bool u.slashes, .string (mk u.user), .string (mk u.pass), .string (mk u.host), .int .i64 u.port, .slice Ap (u.ps.map toPV).length np, .slice Aq (u.hs.map toPV).length nq]
  rw [← hw3.out] at hk2
  have := SUR.mk' (u := toSU u) (q1.kp hk2) (q2.kp hk2) HP.out.1 HP.out.2
  have e : mk u.raw = ⟨#[]⟩ := by rw [H0.out]; rfl
  unfold toSU at this ⊢
  rw [e] at this ⊢
  exact this
 ·exact (HR.out _ hS3).2.2
theorem addrOK0 {w0 : World} {u : Ur} (hsm : u.Small) (h0 : u.raw = []) : AddrOK w0 u := fun cs w _ h => (address_c0 cs u w h hsm h0).mono fun _ _ ⟨cs', h1, h2, h3⟩ => ⟨cs', toSU u, h1, h2, fun _ => rfl, ⟨by have := hsm.ps.len; simp [toSU]; omega, by have := hsm.hs.len; simp [toSU]; omega⟩, h3⟩
structure HdC (w : World) (b : Nat) (x : Hd) (v3 v14 v16 v17 v18 v19 : Value) : Prop where
 lt : b < w.heap.size
 t : w.cell? ⟨b, 0, none⟩ = some (.int .i64 x.t)
 disp : w.cell? ⟨b, 3, none⟩ = some v3
 ps : w.cell? ⟨b, 14, none⟩ = some v14
 proto : w.cell? ⟨b, 16, none⟩ = some v16
 ver : w.cell? ⟨b, 17, none⟩ = some v17
 tr : w.cell? ⟨b, 18, none⟩ = some v18
 host : w.cell? ⟨b, 19, none⟩ = some v19
 port : w.cell? ⟨b, 20, none⟩ = some (.int .i64 x.port)
 cdisp : (convert 22 9 v3).run Tryz.prog w = .ok (.string (mk x.disp)) w
 cproto : (convert 22 9 v16).run Tryz.prog w = .ok (.string (mk x.proto)) w
 cver : (convert 22 9 v17).run Tryz.prog w = .ok (.string (mk x.ver)) w
 ctr : (convert 22 9 v18).run Tryz.prog w = .ok (.string (mk x.tr)) w
 chost : (convert 22 9 v19).run Tryz.prog w = .ok (.string (mk x.host)) w
 kps : KVs w v14 x.ps
theorem hdC (cs : Array Value) (x : Hd) (w : World) (h : HdR w cs x) : ∃ v3 v14 v16 v17 v18 v19, ∀ wr, Below (w.heap.size + 1) (w.alloc (.cells cs 34)) wr →
 HdC wr w.heap.size x v3 v14 v16 v17 v18 v19 ∧ UrR wr (cs.extract 4 14) x.uri ∧ CellsAt wr w.heap.size 4 (cs.extract 4 14) ∧ Below w.heap.size w wr := by
 obtain ⟨v3, e3, r3⟩ := h.disp
 obtain ⟨v14, e14, r14⟩ := h.ps
 obtain ⟨v16, e16, r16⟩ := h.proto
 obtain ⟨v17, e17, r17⟩ := h.ver
 obtain ⟨v18, e18, r18⟩ := h.tr
 obtain ⟨v19, e19, r19⟩ := h.host
 refine ⟨v3, v14, v16, v17, v18, v19, fun wr hB => ?_⟩
 have hb : Below w.heap.size w wr := (below_alloc w _).trans (hB.mono (by omega))
 have hsz := hB.size
 simp only [World.size_alloc] at hsz
 have q : ∀ j v, cs[j]? = some v → wr.cell? ⟨w.heap.size, j, none⟩ = some v := fun j v hv => by
  rw [hB.cell (p := ⟨w.heap.size, j, none⟩) (by show w.heap.size < _; omega)]
  simpa using cells_new w cs 34 (0, 0) j v hv
 refine ⟨⟨by omega, q _ _ h.t, q _ _ e3, q _ _ e14, q _ _ e16, q _ _ e17, q _ _ e18, q _ _ e19, q _ _ h.port, conv_b (r3.grow hb), conv_b (r16.grow hb), conv_b (r17.grow hb), conv_b (r18.grow hb), conv_b (r19.grow hb), r14.grow hb⟩, h.uri.grow hb, ?_, hb⟩
 have hq : CellsAt wr w.heap.size 0 cs := fun j v hv => by rw [Nat.zero_add]; exact q j v hv
 simpa using hq.part 4 14 (by rw [h.size]; omega)
theorem uriSz {w : World} {cs : Array Value} {x : Hd} (h : HdR w cs x) : (cs.extract 4 14).size = 10 := h.uri.size
def madeSort (t : Int) : Bool := addressed t || routed t || decide (t = 9)
theorem made_all (cs : Array Value) (x : Hd) (w : World) (h : HdR w cs x) (hA : AddrOK w x.uri) (HL : Hid (x.ps.length ≤ 1048576)) :
 Calls Tryz.prog 69 #[.agg cs] w fun e w' => (madeSort x.t = true → ∃ v u, e = .returned v ∧ HObj w' v (toSHu x u) ∧ (x.uri.raw = [] → u = toSU x.uri) ∧ Below w.heap.size w w') ∧ (madeSort x.t = false → e = .returned .nilIface ∧ Below w.heap.size w w') := by
 have hall : x.t = 1 ∨ x.t = 2 ∨ x.t = 3 ∨ x.t = 14 ∨ x.t = 11 ∨ x.t = 12 ∨ x.t = 13 ∨ x.t = 9 ∨ madeSort x.t = false := by
  simp [madeSort, addressed, routed]
  omega
 have HX := Lib.hid (hdC cs x w h)
 have HUZ := Lib.hid (uriSz h)
 have HPO : Hid (-9223372036854775808 ≤ x.port ∧ x.port ≤ 9223372036854775807) := ⟨h.portLo, h.portHi⟩
 have hsz : cs.size = 21 := h.size
 have e0 := h.t
 clear h
 obtain ⟨W0, hW0⟩ : ∃ W0, W0 = w.alloc (.cells cs 34) := ⟨_, rfl⟩
 have hW0s : W0.heap.size = w.heap.size + 1 := by rw [hW0]; simp
 obtain ⟨v3, v14, v16, v17, v18, v19, hx⟩ := HX.out
 rw [← hW0] at hx
 have HC := Lib.hid hx
 clear hx HX
 have hB0 : Below (w.heap.size + 1) W0 W0 := Below.refl _ _
 have HW0 := Lib.hid hW0
 clear hW0
 go_enter func69, ntmps69
 go_upto_region 1 with fail
 rw [← HW0.out]
 clear HW0
 go_cut [3, 4, 5] from 999 (fun s3 s4 s5 wx => s3 = .string (mk x.disp) ∧ ∃ b4 u1 A8 n8 A9 n9 Ap np, s4 = .pointer (some ⟨b4, 0, none⟩) ∧ s5 = .slice Ap (x.ps.map toPV).length np ∧ Below (w.heap.size + 1) W0 wx ∧ Blk wx b4 #[.string u1.scheme, .string u1.raw, .bool u1.star, .bool u1.slashes, .string u1.user, .string u1.pass, .string u1.host, .int .i64 u1.port, .slice A8 u1.ps.length n8, .slice A9 u1.hs.length n9] 74 ∧ HPs wx (.slice A8 u1.ps.length n8) u1.ps ∧ HPs wx (.slice A9 u1.hs.length n9) u1.hs ∧ HPs wx (.slice Ap (x.ps.map toPV).length np) (x.ps.map toPV) ∧ (-9223372036854775808 ≤ u1.port ∧ u1.port ≤ 9223372036854775807) ∧ (x.uri.raw = [] → u1 = toSU x.uri))
 case first =>
  refine wp_region_noPanic ?_
  have hS0 := hB0.drew
  have hz0 := hS0.size
  refine wp_region_held_drew (S := fun w' => Below (w.heap.size + 1) W0 w') (by kernel_rfl) hS0 (fun _ => ?_)
  refine tk 0 (.pointer (some ⟨w.heap.size, 3, none⟩)) rfl yR hS0 ?_
  refine tk 1 v3 rfl (yL underlying22 (fun w h => (HC.out w h).1.disp)) hS0 ?_
  refine tk 2 (.string (mk x.disp)) rfl (yE 22 9 (v3) (fun w h => (HC.out w h).1.cdisp)) hS0 ?_
  refine tk 3 (.pointer (some ⟨w.heap.size, 4, none⟩)) rfl yR hS0 ?_
  refine tk 4 (.agg (cs.extract 4 14)) rfl (yA 25 w.heap.size 4 (cs.extract 4 14) underlying25 (infoUr.trans (congrArg some HUZ.out.symm)) (fun w h => (HC.out w h).2.2.1)) hS0 ?_
  refine tk 6 (.pointer (some ⟨w.heap.size, 14, none⟩)) rfl yR hS0 ?_
  refine tk 7 v14 rfl (yL underlying23 (fun w h => (HC.out w h).1.ps)) hS0 ?_
  refine wpAnyH_ready (rs := [5, 9]) (by kernel_rfl) (by decide) (AllReadyH.cons (o := ⟨some 11, Op.call { callee := Callee.value (Operand.func 51), args := #[Operand.tmp 10], argTypes := #[25] }, 74, _, _, none⟩) rfl (fun K hK => ?_) (AllReadyH.cons (o := ⟨some 4, Op.alloc 74, 0, _, _, none⟩) rfl (fun K hK => ?_) AllReadyH.nil))
  focus
   refine sC func51 #[.agg (cs.extract 4 14)] (hA _ _ (HC.out _ hS0).2.2.2 (HC.out _ hS0).2.1) ?_
   rintro e w1 ⟨cs1, u1, rfl, hr, hraw, _, hb1⟩
   refine ⟨_, rfl, ?_⟩
   obtain ⟨hS1, hz1⟩ := zB hS0 hb1
   obtain ⟨A8, n8, A9, n9, rfl, q8, q9⟩ := hr.lit
   have HPU : Hid (-9223372036854775808 ≤ u1.port ∧ u1.port ≤ 9223372036854775807) := ⟨hr.portLo, hr.portHi⟩
   have HRAW := Lib.hid hraw
   clear hr hraw
   refine sh hK hS1 ?_
   clear hK K
   refine wpAnyH_ready (rs := [8, 9]) (by kernel_rfl) (by decide) (AllReadyH.cons (o := ⟨some 14, Op.call { callee := Callee.value (Operand.func 71), args := #[Operand.tmp 13], argTypes := #[23] }, 72, _, _, none⟩) rfl (fun K hK => ?_) (AllReadyH.cons (o := ⟨some 4, Op.alloc 74, 0, _, _, none⟩) rfl (fun K hK => ?_) AllReadyH.nil))
   focus
    refine sC func71 #[v14] (params_c _ x.ps _ (HC.out _ hS1).1.kps HL.out) ?_
    rintro e w2 ⟨r2, rfl, hr2, hb2⟩
    refine ⟨_, rfl, ?_⟩
    obtain ⟨hS2, hz2⟩ := zB hS1 hb2
    replace q8 := q8.grow hb2
    replace q9 := q9.grow hb2
    have hp := hr2.hps
    obtain ⟨Ap, np, rfl⟩ := hp.shape
    clear hr2
    refine sh hK hS2 ?_
    clear hK K
    refine rd 9 rfl (fun K hK => ?_)
    refine sN #[.string ⟨#[]⟩, .string ⟨#[]⟩, .bool false, .bool false, .string ⟨#[]⟩, .string ⟨#[]⟩, .string ⟨#[]⟩, .int .i64 0, .slice none 0 0, .slice none 0 0] 74 ?_
    intro b4 w3 b4_ge b4_lt hT4 hb3
    obtain ⟨hS3, hz3⟩ := zB hS2 hb3
    replace q8 := q8.grow hb3
    replace q9 := q9.grow hb3
    replace hp := hp.grow hb3
    refine sh hK hS3 ?_
    clear hK K
    refine tk 10 (.string (mk x.disp)) rfl yR hS3 ?_
    refine rd 11 rfl (fun K hK => ?_)
    refine sR b4 #[.string u1.scheme, .string u1.raw, .bool u1.star, .bool u1.slashes, .string u1.user, .string u1.pass, .string u1.host, .int .i64 u1.port, .slice A8 u1.ps.length n8, .slice A9 u1.hs.length n9] 74 hT4.row infoSU ?_
    obtain ⟨w4, hw4⟩ : ∃ W, W = World.setRow w3 (b4) (#[.string u1.scheme, .string u1.raw, .bool u1.star, .bool u1.slashes, .string u1.user, .string u1.pass, .string u1.host, .int .i64 u1.port, .slice A8 u1.ps.length n8, .slice A9 u1.hs.length n9]) := ⟨_, rfl⟩
    rw [← hw4]
    have hS4 : Below (w.heap.size + 1) W0 w4 := by rw [hw4]; exact hS3.trans (below_setRow (w.heap.size + 1) _ (b4) _ (by omega))
    have hz4 := hS4.size
    replace hw4 := Lib.hid hw4
    refine sh hK hS4 ?_
    clear hK K
    refine tk 12 (.slice Ap (x.ps.map toPV).length np) rfl yR hS4 ?_
    refine wpAnyH_done (by kernel_rfl) ?_ _
    refine NoPanic.normal ?_
   rotate_left 1
   focus
    refine sN #[.string ⟨#[]⟩, .string ⟨#[]⟩, .bool false, .bool false, .string ⟨#[]⟩, .string ⟨#[]⟩, .string ⟨#[]⟩, .int .i64 0, .slice none 0 0, .slice none 0 0] 74 ?_
    intro b4 w2 b4_ge b4_lt hT4 hb2
    obtain ⟨hS2, hz2⟩ := zB hS1 hb2
    replace q8 := q8.grow hb2
    replace q9 := q9.grow hb2
    refine sh hK hS2 ?_
    clear hK K
    refine rd 8 rfl (fun K hK => ?_)
    refine sC func71 #[v14] (params_c _ x.ps _ (HC.out _ hS2).1.kps HL.out) ?_
    rintro e w3 ⟨r2, rfl, hr2, hb3⟩
    refine ⟨_, rfl, ?_⟩
    obtain ⟨hS3, hz3⟩ := zB hS2 hb3
    replace q8 := q8.grow hb3
    replace q9 := q9.grow hb3
    replace hT4 := hT4.grow hb3
    have hp := hr2.hps
    obtain ⟨Ap, np, rfl⟩ := hp.shape
    clear hr2
    refine sh hK hS3 ?_
    clear hK K
    refine tk 10 (.string (mk x.disp)) rfl yR hS3 ?_
    refine rd 11 rfl (fun K hK => ?_)
    refine sR b4 #[.string u1.scheme, .string u1.raw, .bool u1.star, .bool u1.slashes, .string u1.user, .string u1.pass, .string u1.host, .int .i64 u1.port, .slice A8 u1.ps.length n8, .slice A9 u1.hs.length n9] 74 hT4.row infoSU ?_
    obtain ⟨w4, hw4⟩ : ∃ W, W = World.setRow w3 (b4) (#[.string u1.scheme, .string u1.raw, .bool u1.star, .bool u1.slashes, .string u1.user, .string u1.pass, .string u1.host, .int .i64 u1.port, .slice A8 u1.ps.length n8, .slice A9 u1.hs.length n9]) := ⟨_, rfl⟩
    rw [← hw4]
    have hS4 : Below (w.heap.size + 1) W0 w4 := by rw [hw4]; exact hS3.trans (below_setRow (w.heap.size + 1) _ (b4) _ (by omega))
    have hz4 := hS4.size
    replace hw4 := Lib.hid hw4
    refine sh hK hS4 ?_
    clear hK K
    refine tk 12 (.slice Ap (x.ps.map toPV).length np) rfl yR hS4 ?_
    refine wpAnyH_done (by kernel_rfl) ?_ _
    refine NoPanic.normal ?_
  rotate_left 2
  focus
   refine sN #[.string ⟨#[]⟩, .string ⟨#[]⟩, .bool false, .bool false, .string ⟨#[]⟩, .string ⟨#[]⟩, .string ⟨#[]⟩, .int .i64 0, .slice none 0 0, .slice none 0 0] 74 ?_
   intro b4 w1 b4_ge b4_lt hT4 hb1
   obtain ⟨hS1, hz1⟩ := zB hS0 hb1
   refine sh hK hS1 ?_
   clear hK K
   refine rd 5 rfl (fun K hK => ?_)
   refine sC func51 #[.agg (cs.extract 4 14)] (hA _ _ (HC.out _ hS1).2.2.2 (HC.out _ hS1).2.1) ?_
   rintro e w2 ⟨cs1, u1, rfl, hr, hraw, _, hb2⟩
   refine ⟨_, rfl, ?_⟩
   obtain ⟨hS2, hz2⟩ := zB hS1 hb2
   replace hT4 := hT4.grow hb2
   obtain ⟨A8, n8, A9, n9, rfl, q8, q9⟩ := hr.lit
   have HPU : Hid (-9223372036854775808 ≤ u1.port ∧ u1.port ≤ 9223372036854775807) := ⟨hr.portLo, hr.portHi⟩
   have HRAW := Lib.hid hraw
   clear hr hraw
   refine sh hK hS2 ?_
   clear hK K
   refine rd 8 rfl (fun K hK => ?_)
   refine sC func71 #[v14] (params_c _ x.ps _ (HC.out _ hS2).1.kps HL.out) ?_
   rintro e w3 ⟨r2, rfl, hr2, hb3⟩
   refine ⟨_, rfl, ?_⟩
   obtain ⟨hS3, hz3⟩ := zB hS2 hb3
   replace hT4 := hT4.grow hb3
   replace q8 := q8.grow hb3
   replace q9 := q9.grow hb3
   have hp := hr2.hps
   obtain ⟨Ap, np, rfl⟩ := hp.shape
   clear hr2
   refine sh hK hS3 ?_
   clear hK K
   refine tk 10 (.string (mk x.disp)) rfl yR hS3 ?_
   refine rd 11 rfl (fun K hK => ?_)
   refine sR b4 #[.string u1.scheme, .string u1.raw, .bool u1.star, .bool u1.slashes, .string u1.user, .string u1.pass, .string u1.host, .int .i64 u1.port, .slice A8 u1.ps.length n8, .slice A9 u1.hs.length n9] 74 hT4.row infoSU ?_
   obtain ⟨w4, hw4⟩ : ∃ W, W = World.setRow w3 (b4) (#[.string u1.scheme, .string u1.raw, .bool u1.star, .bool u1.slashes, .string u1.user, .string u1.pass, .string u1.host, .int .i64 u1.port, .slice A8 u1.ps.length n8, .slice A9 u1.hs.length n9]) := ⟨_, rfl⟩
   rw [← hw4]
   have hS4 : Below (w.heap.size + 1) W0 w4 := by rw [hw4]; exact hS3.trans (below_setRow (w.heap.size + 1) _ (b4) _ (by omega))
   have hz4 := hS4.size
   replace hw4 := Lib.hid hw4
   refine sh hK hS4 ?_
   clear hK K
   refine tk 12 (.slice Ap (x.ps.map toPV).length np) rfl yR hS4 ?_
   refine wpAnyH_done (by kernel_rfl) ?_ _
   refine NoPanic.normal ?_
  all_goals
   have hk := Kp.setRow hT4.row (by decide) #[.string u1.scheme, .string u1.raw, .bool u1.star, .bool u1.slashes, .string u1.user, .string u1.pass, .string u1.host, .int .i64 u1.port, .slice A8 u1.ps.length n8, .slice A9 u1.hs.length n9]
   have hT5 := hT4.set #[.string u1.scheme, .string u1.raw, .bool u1.star, .bool u1.slashes, .string u1.user, .string u1.pass, .string u1.host, .int .i64 u1.port, .slice A8 u1.ps.length n8, .slice A9 u1.hs.length n9]
   rw [← hw4.out] at hk hT5
   replace q8 := q8.kp hk
   replace q9 := q9.kp hk
   replace hp := hp.kp hk
   clear hk hT4 hw4
   go_wp2_with fail
   go_meet
   case rel => exact ⟨rfl, b4, u1, _, _, _, _, _, _, rfl, rfl, hS4, hT5, q8, q9, hp, HPU.out, HRAW.out⟩
 case rest =>
  obtain ⟨rfl, b4, u1, A8, n8, A9, n9, Ap, np, rfl, rfl, hSc, hT5, q8, q9, hp, HPU, HRAW⟩ := hcut
  have hR := Below.refl wc.heap.size wc
  have HSc := Lib.hid hSc
  have hscz := hSc.size
  clear hSc
  have ct := (HC.out wc HSc.out).1.t
  rcases hall with q | q | q | q | q | q | q | q | q
  ·rw [q] at ct
   go_upto_region 4 with fail
   clear ct
   refine pR [.string (mk x.disp)] ?_
   refine yb (.agg #[.string u1.scheme, .string u1.raw, .bool u1.star, .bool u1.slashes, .string u1.user, .string u1.pass, .string u1.host, .int .i64 u1.port, .slice A8 u1.ps.length n8, .slice A9 u1.hs.length n9]) hR (yA 74 b4 0 #[.string u1.scheme, .string u1.raw, .bool u1.star, .bool u1.slashes, .string u1.user, .string u1.pass, .string u1.host, .int .i64 u1.port, .slice A8 u1.ps.length n8, .slice A9 u1.hs.length n9] underlying74 (infoSU) (fun w h => (hT5.grow h).cells)) ?_
   refine pP [.slice Ap (x.ps.map toPV).length np, .agg #[.string (mk x.disp), .string u1.scheme, .string u1.raw, .bool u1.star, .bool u1.slashes, .string u1.user, .string u1.pass, .string u1.host, .int .i64 u1.port, .slice A8 u1.ps.length n8, .slice A9 u1.hs.length n9, .slice Ap (x.ps.map toPV).length np]] ?_
   refine cN #[.string (mk x.disp), .string u1.scheme, .string u1.raw, .bool u1.star, .bool u1.slashes, .string u1.user, .string u1.pass, .string u1.host, .int .i64 u1.port, .slice A8 u1.ps.length n8, .slice A9 u1.hs.length n9, .slice Ap (x.ps.map toPV).length np] 147 ?_
   intro b5 w1 b5_ge b5_lt hN hb1
   obtain ⟨hS1, hz1⟩ := zB hR hb1
   refine wP ?_
   refine pQ [.iface 92 (.pointer (some ⟨b5, 0, none⟩)), .iface 92 (.pointer (some ⟨b5, 0, none⟩))] ?_
   go_wp2
   go_ret
   refine ⟨fun _ => ?_, fun hm => by rw [q] at hm; exact absurd hm (by decide)⟩
   refine ⟨_, u1, rfl, ?_, HRAW, (HC.out wc HSc.out).2.2.2.trans (hb1.mono (by have := HSc.out.size; omega))⟩
   have hsh : toSHu x u1 = { (default : SH) with t := 1, s1 := mk x.disp, u := u1, ps := x.ps.map toPV } := by unfold toSHu; rw [q]; rfl
   rw [hsh]
   have hq := Kp.of hb1
   exact ⟨_, _, rfl, hN, SHR.of_addr (by unfold sAddr; simp) (AddrR.lit (q8.kp hq) (q9.kp hq) (hp.kp hq) HPU.1 HPU.2 _ rfl rfl rfl)⟩
  ·rw [q] at ct
   go_upto_region 6 with fail
   clear ct
   refine pR [.string (mk x.disp)] ?_
   refine yb (.agg #[.string u1.scheme, .string u1.raw, .bool u1.star, .bool u1.slashes, .string u1.user, .string u1.pass, .string u1.host, .int .i64 u1.port, .slice A8 u1.ps.length n8, .slice A9 u1.hs.length n9]) hR (yA 74 b4 0 #[.string u1.scheme, .string u1.raw, .bool u1.star, .bool u1.slashes, .string u1.user, .string u1.pass, .string u1.host, .int .i64 u1.port, .slice A8 u1.ps.length n8, .slice A9 u1.hs.length n9] underlying74 (infoSU) (fun w h => (hT5.grow h).cells)) ?_
   refine pP [.slice Ap (x.ps.map toPV).length np, .agg #[.string (mk x.disp), .string u1.scheme, .string u1.raw, .bool u1.star, .bool u1.slashes, .string u1.user, .string u1.pass, .string u1.host, .int .i64 u1.port, .slice A8 u1.ps.length n8, .slice A9 u1.hs.length n9, .slice Ap (x.ps.map toPV).length np]] ?_
   refine cN #[.string (mk x.disp), .string u1.scheme, .string u1.raw, .bool u1.star, .bool u1.slashes, .string u1.user, .string u1.pass, .string u1.host, .int .i64 u1.port, .slice A8 u1.ps.length n8, .slice A9 u1.hs.length n9, .slice Ap (x.ps.map toPV).length np] 148 ?_
   intro b5 w1 b5_ge b5_lt hN hb1
   obtain ⟨hS1, hz1⟩ := zB hR hb1
   refine wP ?_
   refine pQ [.iface 91 (.pointer (some ⟨b5, 0, none⟩)), .iface 91 (.pointer (some ⟨b5, 0, none⟩))] ?_
   go_wp2
   go_ret
   refine ⟨fun _ => ?_, fun hm => by rw [q] at hm; exact absurd hm (by decide)⟩
   refine ⟨_, u1, rfl, ?_, HRAW, (HC.out wc HSc.out).2.2.2.trans (hb1.mono (by have := HSc.out.size; omega))⟩
   have hsh : toSHu x u1 = { (default : SH) with t := 2, s1 := mk x.disp, u := u1, ps := x.ps.map toPV } := by unfold toSHu; rw [q]; rfl
   rw [hsh]
   have hq := Kp.of hb1
   exact ⟨_, _, rfl, hN, SHR.of_addr (by unfold sAddr; simp) (AddrR.lit (q8.kp hq) (q9.kp hq) (hp.kp hq) HPU.1 HPU.2 _ rfl rfl rfl)⟩
  ·rw [q] at ct
   go_upto_region 8 with fail
   clear ct
   refine pR [.string (mk x.disp)] ?_
   refine yb (.agg #[.string u1.scheme, .string u1.raw, .bool u1.star, .bool u1.slashes, .string u1.user, .string u1.pass, .string u1.host, .int .i64 u1.port, .slice A8 u1.ps.length n8, .slice A9 u1.hs.length n9]) hR (yA 74 b4 0 #[.string u1.scheme, .string u1.raw, .bool u1.star, .bool u1.slashes, .string u1.user, .string u1.pass, .string u1.host, .int .i64 u1.port, .slice A8 u1.ps.length n8, .slice A9 u1.hs.length n9] underlying74 (infoSU) (fun w h => (hT5.grow h).cells)) ?_
   refine pP [.slice Ap (x.ps.map toPV).length np, .agg #[.string (mk x.disp), .string u1.scheme, .string u1.raw, .bool u1.star, .bool u1.slashes, .string u1.user, .string u1.pass, .string u1.host, .int .i64 u1.port, .slice A8 u1.ps.length n8, .slice A9 u1.hs.length n9, .slice Ap (x.ps.map toPV).length np]] ?_
   refine cN #[.string (mk x.disp), .string u1.scheme, .string u1.raw, .bool u1.star, .bool u1.slashes, .string u1.user, .string u1.pass, .string u1.host, .int .i64 u1.port, .slice A8 u1.ps.length n8, .slice A9 u1.hs.length n9, .slice Ap (x.ps.map toPV).length np] 149 ?_
   intro b5 w1 b5_ge b5_lt hN hb1
   obtain ⟨hS1, hz1⟩ := zB hR hb1
   refine wP ?_
   refine pQ [.iface 94 (.pointer (some ⟨b5, 0, none⟩)), .iface 94 (.pointer (some ⟨b5, 0, none⟩))] ?_
   go_wp2
   go_ret
   refine ⟨fun _ => ?_, fun hm => by rw [q] at hm; exact absurd hm (by decide)⟩
   refine ⟨_, u1, rfl, ?_, HRAW, (HC.out wc HSc.out).2.2.2.trans (hb1.mono (by have := HSc.out.size; omega))⟩
   have hsh : toSHu x u1 = { (default : SH) with t := 3, s1 := mk x.disp, u := u1, ps := x.ps.map toPV } := by unfold toSHu; rw [q]; rfl
   rw [hsh]
   have hq := Kp.of hb1
   exact ⟨_, _, rfl, hN, SHR.of_addr (by unfold sAddr; simp) (AddrR.lit (q8.kp hq) (q9.kp hq) (hp.kp hq) HPU.1 HPU.2 _ rfl rfl rfl)⟩
  ·rw [q] at ct
   go_upto_region 18 with fail
   clear ct
   refine pR [.string (mk x.disp)] ?_
   refine yb (.agg #[.string u1.scheme, .string u1.raw, .bool u1.star, .bool u1.slashes, .string u1.user, .string u1.pass, .string u1.host, .int .i64 u1.port, .slice A8 u1.ps.length n8, .slice A9 u1.hs.length n9]) hR (yA 74 b4 0 #[.string u1.scheme, .string u1.raw, .bool u1.star, .bool u1.slashes, .string u1.user, .string u1.pass, .string u1.host, .int .i64 u1.port, .slice A8 u1.ps.length n8, .slice A9 u1.hs.length n9] underlying74 (infoSU) (fun w h => (hT5.grow h).cells)) ?_
   refine pP [.slice Ap (x.ps.map toPV).length np, .agg #[.string (mk x.disp), .string u1.scheme, .string u1.raw, .bool u1.star, .bool u1.slashes, .string u1.user, .string u1.pass, .string u1.host, .int .i64 u1.port, .slice A8 u1.ps.length n8, .slice A9 u1.hs.length n9, .slice Ap (x.ps.map toPV).length np]] ?_
   refine cN #[.string (mk x.disp), .string u1.scheme, .string u1.raw, .bool u1.star, .bool u1.slashes, .string u1.user, .string u1.pass, .string u1.host, .int .i64 u1.port, .slice A8 u1.ps.length n8, .slice A9 u1.hs.length n9, .slice Ap (x.ps.map toPV).length np] 158 ?_
   intro b5 w1 b5_ge b5_lt hN hb1
   obtain ⟨hS1, hz1⟩ := zB hR hb1
   refine wP ?_
   refine pQ [.iface 157 (.pointer (some ⟨b5, 0, none⟩)), .iface 157 (.pointer (some ⟨b5, 0, none⟩))] ?_
   go_wp2
   go_ret
   refine ⟨fun _ => ?_, fun hm => by rw [q] at hm; exact absurd hm (by decide)⟩
   refine ⟨_, u1, rfl, ?_, HRAW, (HC.out wc HSc.out).2.2.2.trans (hb1.mono (by have := HSc.out.size; omega))⟩
   have hsh : toSHu x u1 = { (default : SH) with t := 14, s1 := mk x.disp, u := u1, ps := x.ps.map toPV } := by unfold toSHu; rw [q]; rfl
   rw [hsh]
   have hq := Kp.of hb1
   exact ⟨_, _, rfl, hN, SHR.of_addr (by unfold sAddr; simp) (AddrR.lit (q8.kp hq) (q9.kp hq) (hp.kp hq) HPU.1 HPU.2 _ rfl rfl rfl)⟩
  ·rw [q] at ct
   go_upto_region 12 with fail
   clear ct
   apply wR
   refine yb (.agg #[.string u1.scheme, .string u1.raw, .bool u1.star, .bool u1.slashes, .string u1.user, .string u1.pass, .string u1.host, .int .i64 u1.port, .slice A8 u1.ps.length n8, .slice A9 u1.hs.length n9]) hR (yA 74 b4 0 #[.string u1.scheme, .string u1.raw, .bool u1.star, .bool u1.slashes, .string u1.user, .string u1.pass, .string u1.host, .int .i64 u1.port, .slice A8 u1.ps.length n8, .slice A9 u1.hs.length n9] underlying74 (infoSU) (fun w h => (hT5.grow h).cells)) ?_
   refine pP [.agg #[.string u1.scheme, .string u1.raw, .bool u1.star, .bool u1.slashes, .string u1.user, .string u1.pass, .string u1.host, .int .i64 u1.port, .slice A8 u1.ps.length n8, .slice A9 u1.hs.length n9]] ?_
   refine cN #[.string u1.scheme, .string u1.raw, .bool u1.star, .bool u1.slashes, .string u1.user, .string u1.pass, .string u1.host, .int .i64 u1.port, .slice A8 u1.ps.length n8, .slice A9 u1.hs.length n9] 153 ?_
   intro b5 w1 b5_ge b5_lt hN hb1
   obtain ⟨hS1, hz1⟩ := zB hR hb1
   refine wP ?_
   refine pQ [.iface 98 (.pointer (some ⟨b5, 0, none⟩)), .iface 98 (.pointer (some ⟨b5, 0, none⟩))] ?_
   go_wp2
   go_ret
   refine ⟨fun _ => ?_, fun hm => by rw [q] at hm; exact absurd hm (by decide)⟩
   refine ⟨_, u1, rfl, ?_, HRAW, (HC.out wc HSc.out).2.2.2.trans (hb1.mono (by have := HSc.out.size; omega))⟩
   have hsh : toSHu x u1 = { (default : SH) with t := 11, u := u1 } := by unfold toSHu; rw [q]; rfl
   rw [hsh]
   have hq := Kp.of hb1
   exact ⟨_, _, rfl, hN, SHR.of_route (by unfold sRoute; simp) (SUR.mk' (q8.kp hq) (q9.kp hq) HPU.1 HPU.2)⟩
  ·rw [q] at ct
   go_upto_region 14 with fail
   clear ct
   apply wR
   refine yb (.agg #[.string u1.scheme, .string u1.raw, .bool u1.star, .bool u1.slashes, .string u1.user, .string u1.pass, .string u1.host, .int .i64 u1.port, .slice A8 u1.ps.length n8, .slice A9 u1.hs.length n9]) hR (yA 74 b4 0 #[.string u1.scheme, .string u1.raw, .bool u1.star, .bool u1.slashes, .string u1.user, .string u1.pass, .string u1.host, .int .i64 u1.port, .slice A8 u1.ps.length n8, .slice A9 u1.hs.length n9] underlying74 (infoSU) (fun w h => (hT5.grow h).cells)) ?_
   refine pP [.agg #[.string u1.scheme, .string u1.raw, .bool u1.star, .bool u1.slashes, .string u1.user, .string u1.pass, .string u1.host, .int .i64 u1.port, .slice A8 u1.ps.length n8, .slice A9 u1.hs.length n9]] ?_
   refine cN #[.string u1.scheme, .string u1.raw, .bool u1.star, .bool u1.slashes, .string u1.user, .string u1.pass, .string u1.host, .int .i64 u1.port, .slice A8 u1.ps.length n8, .slice A9 u1.hs.length n9] 154 ?_
   intro b5 w1 b5_ge b5_lt hN hb1
   obtain ⟨hS1, hz1⟩ := zB hR hb1
   refine wP ?_
   refine pQ [.iface 99 (.pointer (some ⟨b5, 0, none⟩)), .iface 99 (.pointer (some ⟨b5, 0, none⟩))] ?_
   go_wp2
   go_ret
   refine ⟨fun _ => ?_, fun hm => by rw [q] at hm; exact absurd hm (by decide)⟩
   refine ⟨_, u1, rfl, ?_, HRAW, (HC.out wc HSc.out).2.2.2.trans (hb1.mono (by have := HSc.out.size; omega))⟩
   have hsh : toSHu x u1 = { (default : SH) with t := 12, u := u1 } := by unfold toSHu; rw [q]; rfl
   rw [hsh]
   have hq := Kp.of hb1
   exact ⟨_, _, rfl, hN, SHR.of_route (by unfold sRoute; simp) (SUR.mk' (q8.kp hq) (q9.kp hq) HPU.1 HPU.2)⟩
  ·rw [q] at ct
   go_upto_region 16 with fail
   clear ct
   apply wR
   refine yb (.agg #[.string u1.scheme, .string u1.raw, .bool u1.star, .bool u1.slashes, .string u1.user, .string u1.pass, .string u1.host, .int .i64 u1.port, .slice A8 u1.ps.length n8, .slice A9 u1.hs.length n9]) hR (yA 74 b4 0 #[.string u1.scheme, .string u1.raw, .bool u1.star, .bool u1.slashes, .string u1.user, .string u1.pass, .string u1.host, .int .i64 u1.port, .slice A8 u1.ps.length n8, .slice A9 u1.hs.length n9] underlying74 (infoSU) (fun w h => (hT5.grow h).cells)) ?_
   refine pP [.agg #[.string u1.scheme, .string u1.raw, .bool u1.star, .bool u1.slashes, .string u1.user, .string u1.pass, .string u1.host, .int .i64 u1.port, .slice A8 u1.ps.length n8, .slice A9 u1.hs.length n9]] ?_
   refine cN #[.string u1.scheme, .string u1.raw, .bool u1.star, .bool u1.slashes, .string u1.user, .string u1.pass, .string u1.host, .int .i64 u1.port, .slice A8 u1.ps.length n8, .slice A9 u1.hs.length n9] 156 ?_
   intro b5 w1 b5_ge b5_lt hN hb1
   obtain ⟨hS1, hz1⟩ := zB hR hb1
   refine wP ?_
   refine pQ [.iface 155 (.pointer (some ⟨b5, 0, none⟩)), .iface 155 (.pointer (some ⟨b5, 0, none⟩))] ?_
   go_wp2
   go_ret
   refine ⟨fun _ => ?_, fun hm => by rw [q] at hm; exact absurd hm (by decide)⟩
   refine ⟨_, u1, rfl, ?_, HRAW, (HC.out wc HSc.out).2.2.2.trans (hb1.mono (by have := HSc.out.size; omega))⟩
   have hsh : toSHu x u1 = { (default : SH) with t := 13, u := u1 } := by unfold toSHu; rw [q]; rfl
   rw [hsh]
   have hq := Kp.of hb1
   exact ⟨_, _, rfl, hN, SHR.of_route (by unfold sRoute; simp) (SUR.mk' (q8.kp hq) (q9.kp hq) HPU.1 HPU.2)⟩
  ·rw [q] at ct
   go_upto_region 10 with fail
   clear ct
   refine pR [.pointer (some ⟨w.heap.size, 16, none⟩)] ?_
   refine yb v16 hR (yL underlying22 (fun w h => (HC.out w (HSc.out.trans (h.mono (by have := HSc.out.size; omega)))).1.proto)) ?_
   refine yb (.string (mk x.proto)) hR (yE 22 9 (v16) (fun w h => (HC.out w (HSc.out.trans (h.mono (by have := HSc.out.size; omega)))).1.cproto)) ?_
   refine pP [.pointer (some ⟨w.heap.size, 17, none⟩)] ?_
   refine yb v17 hR (yL underlying22 (fun w h => (HC.out w (HSc.out.trans (h.mono (by have := HSc.out.size; omega)))).1.ver)) ?_
   refine yb (.string (mk x.ver)) hR (yE 22 9 (v17) (fun w h => (HC.out w (HSc.out.trans (h.mono (by have := HSc.out.size; omega)))).1.cver)) ?_
   refine pP [.pointer (some ⟨w.heap.size, 18, none⟩)] ?_
   refine yb v18 hR (yL underlying22 (fun w h => (HC.out w (HSc.out.trans (h.mono (by have := HSc.out.size; omega)))).1.tr)) ?_
   refine yb (.string (mk x.tr)) hR (yE 22 9 (v18) (fun w h => (HC.out w (HSc.out.trans (h.mono (by have := HSc.out.size; omega)))).1.ctr)) ?_
   refine pP [.pointer (some ⟨w.heap.size, 19, none⟩)] ?_
   refine yb v19 hR (yL underlying22 (fun w h => (HC.out w (HSc.out.trans (h.mono (by have := HSc.out.size; omega)))).1.host)) ?_
   refine yb (.string (mk x.host)) hR (yE 22 9 (v19) (fun w h => (HC.out w (HSc.out.trans (h.mono (by have := HSc.out.size; omega)))).1.chost)) ?_
   refine pP [.pointer (some ⟨w.heap.size, 20, none⟩)] ?_
   refine yb (.int .i64 x.port) hR (yL underlying3 (fun w h => (HC.out w (HSc.out.trans (h.mono (by have := HSc.out.size; omega)))).1.port)) ?_
   refine pP [.slice Ap (x.ps.map toPV).length np, .agg #[.string (mk x.proto), .string (mk x.ver), .string (mk x.tr), .string (mk x.host), .int .i64 x.port, .slice Ap (x.ps.map toPV).length np]] ?_
   refine cN #[.string (mk x.proto), .string (mk x.ver), .string (mk x.tr), .string (mk x.host), .int .i64 x.port, .slice Ap (x.ps.map toPV).length np] 151 ?_
   intro b5 w1 b5_ge b5_lt hN hb1
   obtain ⟨hS1, hz1⟩ := zB hR hb1
   refine wP ?_
   refine pQ [.iface 90 (.pointer (some ⟨b5, 0, none⟩)), .iface 90 (.pointer (some ⟨b5, 0, none⟩))] ?_
   go_wp2
   go_ret
   refine ⟨fun _ => ?_, fun hm => by rw [q] at hm; exact absurd hm (by decide)⟩
   refine ⟨_, u1, rfl, ?_, HRAW, (HC.out wc HSc.out).2.2.2.trans (hb1.mono (by have := HSc.out.size; omega))⟩
   have hsh : toSHu x u1 = { (default : SH) with t := 9, s1 := mk x.proto, s2 := mk x.ver, s3 := mk x.tr, s4 := mk x.host, n := x.port, ps := x.ps.map toPV } := by unfold toSHu; rw [q]; rfl
   rw [hsh]
   have hq := Kp.of hb1
   exact ⟨_, _, rfl, hN, SHR.of_via rfl ⟨rfl, rfl, rfl, rfl, rfl, rfl, ⟨_, rfl, hp.kp hq⟩, HPO.out.1, HPO.out.2⟩⟩
  ·have hn : x.t ≠ 1 ∧ x.t ≠ 2 ∧ x.t ≠ 3 ∧ x.t ≠ 14 ∧ x.t ≠ 11 ∧ x.t ≠ 12 ∧ x.t ≠ 13 ∧ x.t ≠ 9 := by
    simp [madeSort, addressed, routed] at q
    omega
   have n1 : (x.t == 1) = false := beq_eq_false_iff_ne.2 (by omega)
   have n2 : (x.t == 2) = false := beq_eq_false_iff_ne.2 (by omega)
   have n3 : (x.t == 3) = false := beq_eq_false_iff_ne.2 (by omega)
   have n14 : (x.t == 14) = false := beq_eq_false_iff_ne.2 (by omega)
   have n11 : (x.t == 11) = false := beq_eq_false_iff_ne.2 (by omega)
   have n12 : (x.t == 12) = false := beq_eq_false_iff_ne.2 (by omega)
   have n13 : (x.t == 13) = false := beq_eq_false_iff_ne.2 (by omega)
   have n9 : (x.t == 9) = false := beq_eq_false_iff_ne.2 (by omega)
   clear hn
   go_wp2
   go_ret
   exact ⟨fun hm => (by rw [q] at hm; exact absurd hm (by decide)), fun _ => ⟨rfl, (HC.out wc HSc.out).2.2.2⟩⟩
theorem made_none (cs : Array Value) (x : Hd) (w : World) (h : HdR w cs x) (ht : madeSort x.t = false) (hA : AddrOK w x.uri) (HL : Hid (x.ps.length ≤ 1048576)) :
 Calls Tryz.prog 69 #[.agg cs] w fun e w' => e = .returned .nilIface ∧ Below w.heap.size w w' := (made_all cs x w h hA HL).mono fun _ _ h => h.2 ht
theorem made_c (cs : Array Value) (x : Hd) (w : World) (h : HdR w cs x) (ht : madeSort x.t = true) (hA : AddrOK w x.uri) (HL : Hid (x.ps.length ≤ 1048576)) :
 Calls Tryz.prog 69 #[.agg cs] w fun e w' => ∃ v u, e = .returned v ∧ HObj w' v (toSHu x u) ∧ (x.uri.raw = [] → u = toSU x.uri) ∧ Below w.heap.size w w' := (made_all cs x w h hA HL).mono fun _ _ h => h.1 ht
theorem newHeader_c (s1 s2 : ByteArray) (w : World) :
 Calls Tryz.prog 70 #[.string s1, .string s2] w fun e w' => ∃ v, e = .returned v ∧ HObj w' v { (default : SH) with t := 0, s1 := s1, s2 := s2 } ∧ Below w.heap.size w w' := by
 have hR := Below.refl w.heap.size w
 go_enter func70, ntmps70
 go_upto_region 1 with fail
 refine pR [.string s1, .string s2, .agg #[.string s1, .string s2]] ?_
 refine cN #[.string s1, .string s2] 161 ?_
 intro b1 w1 b1_ge b1_lt hN hb1
 obtain ⟨hS1, hz1⟩ := zB hR hb1
 refine wP ?_
 refine pQ [.iface 159 (.pointer (some ⟨b1, 0, none⟩)), .iface 159 (.pointer (some ⟨b1, 0, none⟩))] ?_
 go_wp2
 go_ret
 exact ⟨_, rfl, ⟨_, _, rfl, hN, SHR.of_gen rfl rfl⟩, hS1⟩
theorem infoCI : (Tryz.prog.info? 124).map (·.size) = some 1 := by kernel_rfl
theorem infoCT : (Tryz.prog.info? 131).map (·.size) = some 1 := by kernel_rfl
theorem infoMF : (Tryz.prog.info? 127).map (·.size) = some 1 := by kernel_rfl
theorem infoEX : (Tryz.prog.info? 128).map (·.size) = some 1 := by kernel_rfl
theorem infoCL : (Tryz.prog.info? 130).map (·.size) = some 1 := by kernel_rfl
structure HdC2 (w : World) (b : Nat) (cs : Array Value) (x : Hd) (v1 v2 : Value) : Prop where
 lt : b < w.heap.size
 hd : HdR w cs x
 all : CellsAt w b 0 cs
 t : w.cell? ⟨b, 0, none⟩ = some (.int .i64 x.t)
 name : w.cell? ⟨b, 1, none⟩ = some v1
 text : w.cell? ⟨b, 2, none⟩ = some v2
 num : w.cell? ⟨b, 15, none⟩ = some (.int .u32 x.num)
 rname : Bs w v1 x.name
 rtext : Bs w v2 x.text
theorem hdC2 (cs : Array Value) (x : Hd) (w : World) (h : HdR w cs x) : ∃ v1 v2, ∀ wr, Below (w.heap.size + 1) (w.alloc (.cells cs 34)) wr →
 HdC2 wr w.heap.size cs x v1 v2 ∧ Below w.heap.size w wr := by
 obtain ⟨v1, e1, r1⟩ := h.name
 obtain ⟨v2, e2, r2⟩ := h.text
 refine ⟨v1, v2, fun wr hB => ?_⟩
 have hb : Below w.heap.size w wr := (below_alloc w _).trans (hB.mono (by omega))
 have hsz := hB.size
 simp only [World.size_alloc] at hsz
 have q : ∀ j v, cs[j]? = some v → wr.cell? ⟨w.heap.size, j, none⟩ = some v := fun j v hv => by
  rw [hB.cell (p := ⟨w.heap.size, j, none⟩) (by show w.heap.size < _; omega)]
  simpa using cells_new w cs 34 (0, 0) j v hv
 exact ⟨⟨by omega, h.grow hb, fun j v hv => by rw [Nat.zero_add]; exact q j v hv, q _ _ h.t, q _ _ e1, q _ _ e2, q _ _ h.num, r1.grow hb, r2.grow hb⟩, hb⟩
theorem conv_t {W : World} {v : Value} {l : By} (h : Bs W v l) (dst : TypeId) (hd : Tryz.prog.underlying dst = some .string) : (convert 22 dst v).run Tryz.prog W = .ok (.string (mk l)) W :=
 conv_bytes h 22 5 dst underlying22 underlying5 hd
theorem header_made (cs : Array Value) (x : Hd) (w : World) (h : HdR w cs x) (ht : madeSort x.t = true) (hA : AddrOK w x.uri) (HL : Hid (x.ps.length ≤ 1048576)) :
 Calls Tryz.prog 50 #[.agg cs] w fun e w' => ∃ v u, e = .returned v ∧ HObj w' v (toSHu x u) ∧ (x.uri.raw = [] → u = toSU x.uri) ∧ Below w.heap.size w w' := by
 have HX := Lib.hid (hdC2 cs x w h)
 have HNUM : Hid (0 ≤ x.num ∧ x.num ≤ 4294967295) := ⟨h.numLo, h.numHi⟩
 have HSZ := Lib.hid h.size
 clear h
 obtain ⟨W0, hW0⟩ : ∃ W0, W0 = w.alloc (.cells cs 34) := ⟨_, rfl⟩
 have hW0s : W0.heap.size = w.heap.size + 1 := by rw [hW0]; simp
 obtain ⟨v1, v2, hx⟩ := HX.out
 rw [← hW0] at hx
 have HC := Lib.hid hx
 clear hx HX
 have hB0 : Below (w.heap.size + 1) W0 W0 := Below.refl _ _
 have HW0 := Lib.hid hW0
 clear hW0
 go_enter func50, ntmps50
 go_upto_region 1 with fail
 rw [← HW0.out]
 clear HW0
 apply wR
 refine yb (.agg (cs)) hB0 (yA 34 w.heap.size 0 cs underlying34 (infoHd.trans (congrArg some HSZ.out.symm)) (fun w h => (HC.out w h).1.all)) ?_
 refine cC func69 #[.agg (cs)] (made_c cs x _ (HC.out _ hB0).1.hd ht (hA.mono (HC.out _ hB0).2) HL) ?_
 rintro e w1 ⟨v, u, rfl, hv, hraw, hb1⟩
 refine cR ?_
 obtain ⟨hS1, hz1⟩ := zB hB0 hb1
 have HRAW := Lib.hid hraw
 clear hraw
 have HV := Lib.hid hv
 obtain ⟨bv, rfl, _, _⟩ := hv.shape
 refine pQ [.iface (tyP (toSHu x u).t) (.pointer (some ⟨bv, 0, none⟩))] ?_
 go_wp2
 go_ret
 exact ⟨_, u, rfl, HV.out, HRAW.out, (HC.out _ hS1).2⟩
theorem header_t4 (cs : Array Value) (x : Hd) (w : World) (h : HdR w cs x) (ht : x.t = 4) (hA : AddrOK w x.uri) (HL : Hid (x.ps.length ≤ 1048576)) :
 Calls Tryz.prog 50 #[.agg cs] w fun e w' => ∃ v u, e = .returned v ∧ HObj w' v (toSHu x u) ∧ (x.uri.raw = [] → u = toSU x.uri) ∧ Below w.heap.size w w' := by
 have hms : madeSort x.t = false := by rw [ht]; decide
 have HX := Lib.hid (hdC2 cs x w h)
 have HNUM : Hid (0 ≤ x.num ∧ x.num ≤ 4294967295) := ⟨h.numLo, h.numHi⟩
 have HSZ := Lib.hid h.size
 clear h
 obtain ⟨W0, hW0⟩ : ∃ W0, W0 = w.alloc (.cells cs 34) := ⟨_, rfl⟩
 have hW0s : W0.heap.size = w.heap.size + 1 := by rw [hW0]; simp
 obtain ⟨v1, v2, hx⟩ := HX.out
 rw [← hW0] at hx
 have HC := Lib.hid hx
 clear hx HX
 have hB0 : Below (w.heap.size + 1) W0 W0 := Below.refl _ _
 have HW0 := Lib.hid hW0
 clear hW0
 go_enter func50, ntmps50
 go_upto_region 1 with fail
 rw [← HW0.out]
 clear HW0
 apply wR
 refine yb (.agg (cs)) hB0 (yA 34 w.heap.size 0 cs underlying34 (infoHd.trans (congrArg some HSZ.out.symm)) (fun w h => (HC.out w h).1.all)) ?_
 refine cC func69 #[.agg (cs)] (made_none cs x _ (HC.out _ hB0).1.hd hms (hA.mono (HC.out _ hB0).2) HL) ?_
 rintro e w1 ⟨rfl, hb1⟩
 refine cR ?_
 obtain ⟨hS1, hz1⟩ := zB hB0 hb1
 refine pQ [.nilIface] ?_
 have HS1 := Lib.hid hS1
 have hR := Below.refl w1.heap.size w1
 have ct := (HC.out w1 HS1.out).1.t
 rw [ht] at ct
 go_upto_region 6 with fail
 clear ct
 refine pR [.pointer (some ⟨w.heap.size, 2, none⟩)] ?_
 refine yb v2 hR (yL underlying22 (fun w h => (HC.out w (HS1.out.trans (h.mono (by have := HS1.out.size; omega)))).1.text)) ?_
 refine yb (.string (mk x.text)) hR (yE 22 124 (v2) (fun w h => conv_t ((HC.out w (HS1.out.trans (h.mono (by have := HS1.out.size; omega)))).1.rtext) 124 underlying124)) ?_
 refine cN #[.string ⟨#[]⟩] 124 ?_
 intro b2 w2 b2_ge b2_lt hT hb2
 obtain ⟨hS2, hz2⟩ := zB hR hb2
 refine wP ?_
 refine Wl.step (fun K hK => ?_)
 refine step_store_one rfl 124 _ _ rfl (b2) (.string (mk x.text)) (by kernel_rfl) (by kernel_rfl) 124 hT.row (infoCI) (by kernel_rfl) ?_
 obtain ⟨w3, hw3⟩ : ∃ W, W = World.setRow w2 (b2) (#[.string (mk x.text)]) := ⟨_, rfl⟩
 rw [← hw3]
 have hS3 : Below (w1.heap.size) w1 w3 := by rw [hw3]; exact hS2.trans (below_setRow (w1.heap.size) _ (b2) _ (by omega))
 have hz3 := hS3.size
 replace hw3 := Lib.hid hw3
 refine hK _ _ ?_
 clear hK K
 (try simp only [Act.put, zD, zE, zF])
 refine wN ?_
 have hT2 := hT.set #[.string (mk x.text)]
 rw [← hw3.out] at hT2
 go_wp2
 go_ret
 have hsh : toSHu x default = { (default : SH) with t := 4, s1 := mk x.text } := by unfold toSHu; rw [ht]; rfl
 refine ⟨_, toSU x.uri, rfl, ?_, fun _ => rfl, (HC.out w1 HS1.out).2.trans (hS3.mono (by have := HS1.out.size; omega))⟩
 have hsu : toSHu x (toSU x.uri) = { (default : SH) with t := 4, s1 := mk x.text } := by unfold toSHu; rw [ht]; rfl
 rw [hsu]
 exact ⟨_, _, rfl, hT2, SHR.of_text (by unfold sText; simp) rfl⟩
theorem header_t10 (cs : Array Value) (x : Hd) (w : World) (h : HdR w cs x) (ht : x.t = 10) (hA : AddrOK w x.uri) (HL : Hid (x.ps.length ≤ 1048576)) :
 Calls Tryz.prog 50 #[.agg cs] w fun e w' => ∃ v u, e = .returned v ∧ HObj w' v (toSHu x u) ∧ (x.uri.raw = [] → u = toSU x.uri) ∧ Below w.heap.size w w' := by
 have hms : madeSort x.t = false := by rw [ht]; decide
 have HX := Lib.hid (hdC2 cs x w h)
 have HNUM : Hid (0 ≤ x.num ∧ x.num ≤ 4294967295) := ⟨h.numLo, h.numHi⟩
 have HSZ := Lib.hid h.size
 clear h
 obtain ⟨W0, hW0⟩ : ∃ W0, W0 = w.alloc (.cells cs 34) := ⟨_, rfl⟩
 have hW0s : W0.heap.size = w.heap.size + 1 := by rw [hW0]; simp
 obtain ⟨v1, v2, hx⟩ := HX.out
 rw [← hW0] at hx
 have HC := Lib.hid hx
 clear hx HX
 have hB0 : Below (w.heap.size + 1) W0 W0 := Below.refl _ _
 have HW0 := Lib.hid hW0
 clear hW0
 go_enter func50, ntmps50
 go_upto_region 1 with fail
 rw [← HW0.out]
 clear HW0
 apply wR
 refine yb (.agg (cs)) hB0 (yA 34 w.heap.size 0 cs underlying34 (infoHd.trans (congrArg some HSZ.out.symm)) (fun w h => (HC.out w h).1.all)) ?_
 refine cC func69 #[.agg (cs)] (made_none cs x _ (HC.out _ hB0).1.hd hms (hA.mono (HC.out _ hB0).2) HL) ?_
 rintro e w1 ⟨rfl, hb1⟩
 refine cR ?_
 obtain ⟨hS1, hz1⟩ := zB hB0 hb1
 refine pQ [.nilIface] ?_
 have HS1 := Lib.hid hS1
 have hR := Below.refl w1.heap.size w1
 have ct := (HC.out w1 HS1.out).1.t
 rw [ht] at ct
 go_upto_region 20 with fail
 clear ct
 refine pR [.pointer (some ⟨w.heap.size, 2, none⟩)] ?_
 refine yb v2 hR (yL underlying22 (fun w h => (HC.out w (HS1.out.trans (h.mono (by have := HS1.out.size; omega)))).1.text)) ?_
 refine yb (.string (mk x.text)) hR (yE 22 131 (v2) (fun w h => conv_t ((HC.out w (HS1.out.trans (h.mono (by have := HS1.out.size; omega)))).1.rtext) 131 underlying131)) ?_
 refine cN #[.string ⟨#[]⟩] 131 ?_
 intro b2 w2 b2_ge b2_lt hT hb2
 obtain ⟨hS2, hz2⟩ := zB hR hb2
 refine wP ?_
 refine Wl.step (fun K hK => ?_)
 refine step_store_one rfl 131 _ _ rfl (b2) (.string (mk x.text)) (by kernel_rfl) (by kernel_rfl) 131 hT.row (infoCT) (by kernel_rfl) ?_
 obtain ⟨w3, hw3⟩ : ∃ W, W = World.setRow w2 (b2) (#[.string (mk x.text)]) := ⟨_, rfl⟩
 rw [← hw3]
 have hS3 : Below (w1.heap.size) w1 w3 := by rw [hw3]; exact hS2.trans (below_setRow (w1.heap.size) _ (b2) _ (by omega))
 have hz3 := hS3.size
 replace hw3 := Lib.hid hw3
 refine hK _ _ ?_
 clear hK K
 (try simp only [Act.put, zD, zE, zF])
 refine wN ?_
 have hT2 := hT.set #[.string (mk x.text)]
 rw [← hw3.out] at hT2
 go_wp2
 go_ret
 have hsh : toSHu x default = { (default : SH) with t := 10, s1 := mk x.text } := by unfold toSHu; rw [ht]; rfl
 refine ⟨_, toSU x.uri, rfl, ?_, fun _ => rfl, (HC.out w1 HS1.out).2.trans (hS3.mono (by have := HS1.out.size; omega))⟩
 have hsu : toSHu x (toSU x.uri) = { (default : SH) with t := 10, s1 := mk x.text } := by unfold toSHu; rw [ht]; rfl
 rw [hsu]
 exact ⟨_, _, rfl, hT2, SHR.of_text (by unfold sText; simp) rfl⟩
theorem header_t6 (cs : Array Value) (x : Hd) (w : World) (h : HdR w cs x) (ht : x.t = 6) (hA : AddrOK w x.uri) (HL : Hid (x.ps.length ≤ 1048576)) :
 Calls Tryz.prog 50 #[.agg cs] w fun e w' => ∃ v u, e = .returned v ∧ HObj w' v (toSHu x u) ∧ (x.uri.raw = [] → u = toSU x.uri) ∧ Below w.heap.size w w' := by
 have hms : madeSort x.t = false := by rw [ht]; decide
 have HX := Lib.hid (hdC2 cs x w h)
 have HNUM : Hid (0 ≤ x.num ∧ x.num ≤ 4294967295) := ⟨h.numLo, h.numHi⟩
 have HSZ := Lib.hid h.size
 clear h
 obtain ⟨W0, hW0⟩ : ∃ W0, W0 = w.alloc (.cells cs 34) := ⟨_, rfl⟩
 have hW0s : W0.heap.size = w.heap.size + 1 := by rw [hW0]; simp
 obtain ⟨v1, v2, hx⟩ := HX.out
 rw [← hW0] at hx
 have HC := Lib.hid hx
 clear hx HX
 have hB0 : Below (w.heap.size + 1) W0 W0 := Below.refl _ _
 have HW0 := Lib.hid hW0
 clear hW0
 go_enter func50, ntmps50
 go_upto_region 1 with fail
 rw [← HW0.out]
 clear HW0
 apply wR
 refine yb (.agg (cs)) hB0 (yA 34 w.heap.size 0 cs underlying34 (infoHd.trans (congrArg some HSZ.out.symm)) (fun w h => (HC.out w h).1.all)) ?_
 refine cC func69 #[.agg (cs)] (made_none cs x _ (HC.out _ hB0).1.hd hms (hA.mono (HC.out _ hB0).2) HL) ?_
 rintro e w1 ⟨rfl, hb1⟩
 refine cR ?_
 obtain ⟨hS1, hz1⟩ := zB hB0 hb1
 refine pQ [.nilIface] ?_
 have HS1 := Lib.hid hS1
 have hR := Below.refl w1.heap.size w1
 have ct := (HC.out w1 HS1.out).1.t
 rw [ht] at ct
 go_upto_region 11 with fail
 clear ct
 refine pR [.pointer (some ⟨w.heap.size, 15, none⟩)] ?_
 refine yb (.int .u32 x.num) hR (yL underlying32 (fun w h => (HC.out w (HS1.out.trans (h.mono (by have := HS1.out.size; omega)))).1.num)) ?_
 refine cN #[.int .u32 0] 127 ?_
 intro b2 w2 b2_ge b2_lt hT hb2
 obtain ⟨hS2, hz2⟩ := zB hR hb2
 refine wP ?_
 refine Wl.step (fun K hK => ?_)
 refine step_store_one rfl 127 _ _ rfl (b2) (.int .u32 x.num) (by kernel_rfl) (by kernel_rfl) 127 hT.row (infoMF) (by kernel_rfl) ?_
 obtain ⟨w3, hw3⟩ : ∃ W, W = World.setRow w2 (b2) (#[.int .u32 x.num]) := ⟨_, rfl⟩
 rw [← hw3]
 have hS3 : Below (w1.heap.size) w1 w3 := by rw [hw3]; exact hS2.trans (below_setRow (w1.heap.size) _ (b2) _ (by omega))
 have hz3 := hS3.size
 replace hw3 := Lib.hid hw3
 refine hK _ _ ?_
 clear hK K
 (try simp only [Act.put, zD, zE, zF])
 refine wN ?_
 have hT2 := hT.set #[.int .u32 x.num]
 rw [← hw3.out] at hT2
 go_wp2
 go_ret
 refine ⟨_, toSU x.uri, rfl, ?_, fun _ => rfl, (HC.out w1 HS1.out).2.trans (hS3.mono (by have := HS1.out.size; omega))⟩
 have hsu : toSHu x (toSU x.uri) = { (default : SH) with t := 6, n := x.num } := by unfold toSHu; rw [ht]; rfl
 rw [hsu]
 exact ⟨_, _, rfl, hT2, SHR.of_num (by unfold sNum; simp) ⟨rfl, HNUM.out.1, HNUM.out.2⟩⟩
theorem header_t7 (cs : Array Value) (x : Hd) (w : World) (h : HdR w cs x) (ht : x.t = 7) (hA : AddrOK w x.uri) (HL : Hid (x.ps.length ≤ 1048576)) :
 Calls Tryz.prog 50 #[.agg cs] w fun e w' => ∃ v u, e = .returned v ∧ HObj w' v (toSHu x u) ∧ (x.uri.raw = [] → u = toSU x.uri) ∧ Below w.heap.size w w' := by
 have hms : madeSort x.t = false := by rw [ht]; decide
 have HX := Lib.hid (hdC2 cs x w h)
 have HNUM : Hid (0 ≤ x.num ∧ x.num ≤ 4294967295) := ⟨h.numLo, h.numHi⟩
 have HSZ := Lib.hid h.size
 clear h
 obtain ⟨W0, hW0⟩ : ∃ W0, W0 = w.alloc (.cells cs 34) := ⟨_, rfl⟩
 have hW0s : W0.heap.size = w.heap.size + 1 := by rw [hW0]; simp
 obtain ⟨v1, v2, hx⟩ := HX.out
 rw [← hW0] at hx
 have HC := Lib.hid hx
 clear hx HX
 have hB0 : Below (w.heap.size + 1) W0 W0 := Below.refl _ _
 have HW0 := Lib.hid hW0
 clear hW0
 go_enter func50, ntmps50
 go_upto_region 1 with fail
 rw [← HW0.out]
 clear HW0
 apply wR
 refine yb (.agg (cs)) hB0 (yA 34 w.heap.size 0 cs underlying34 (infoHd.trans (congrArg some HSZ.out.symm)) (fun w h => (HC.out w h).1.all)) ?_
 refine cC func69 #[.agg (cs)] (made_none cs x _ (HC.out _ hB0).1.hd hms (hA.mono (HC.out _ hB0).2) HL) ?_
 rintro e w1 ⟨rfl, hb1⟩
 refine cR ?_
 obtain ⟨hS1, hz1⟩ := zB hB0 hb1
 refine pQ [.nilIface] ?_
 have HS1 := Lib.hid hS1
 have hR := Below.refl w1.heap.size w1
 have ct := (HC.out w1 HS1.out).1.t
 rw [ht] at ct
 go_upto_region 14 with fail
 clear ct
 refine pR [.pointer (some ⟨w.heap.size, 15, none⟩)] ?_
 refine yb (.int .u32 x.num) hR (yL underlying32 (fun w h => (HC.out w (HS1.out.trans (h.mono (by have := HS1.out.size; omega)))).1.num)) ?_
 refine cN #[.int .u32 0] 128 ?_
 intro b2 w2 b2_ge b2_lt hT hb2
 obtain ⟨hS2, hz2⟩ := zB hR hb2
 refine wP ?_
 refine Wl.step (fun K hK => ?_)
 refine step_store_one rfl 128 _ _ rfl (b2) (.int .u32 x.num) (by kernel_rfl) (by kernel_rfl) 128 hT.row (infoEX) (by kernel_rfl) ?_
 obtain ⟨w3, hw3⟩ : ∃ W, W = World.setRow w2 (b2) (#[.int .u32 x.num]) := ⟨_, rfl⟩
 rw [← hw3]
 have hS3 : Below (w1.heap.size) w1 w3 := by rw [hw3]; exact hS2.trans (below_setRow (w1.heap.size) _ (b2) _ (by omega))
 have hz3 := hS3.size
 replace hw3 := Lib.hid hw3
 refine hK _ _ ?_
 clear hK K
 (try simp only [Act.put, zD, zE, zF])
 refine wN ?_
 have hT2 := hT.set #[.int .u32 x.num]
 rw [← hw3.out] at hT2
 go_wp2
 go_ret
 refine ⟨_, toSU x.uri, rfl, ?_, fun _ => rfl, (HC.out w1 HS1.out).2.trans (hS3.mono (by have := HS1.out.size; omega))⟩
 have hsu : toSHu x (toSU x.uri) = { (default : SH) with t := 7, n := x.num } := by unfold toSHu; rw [ht]; rfl
 rw [hsu]
 exact ⟨_, _, rfl, hT2, SHR.of_num (by unfold sNum; simp) ⟨rfl, HNUM.out.1, HNUM.out.2⟩⟩
theorem header_t8 (cs : Array Value) (x : Hd) (w : World) (h : HdR w cs x) (ht : x.t = 8) (hA : AddrOK w x.uri) (HL : Hid (x.ps.length ≤ 1048576)) :
 Calls Tryz.prog 50 #[.agg cs] w fun e w' => ∃ v u, e = .returned v ∧ HObj w' v (toSHu x u) ∧ (x.uri.raw = [] → u = toSU x.uri) ∧ Below w.heap.size w w' := by
 have hms : madeSort x.t = false := by rw [ht]; decide
 have HX := Lib.hid (hdC2 cs x w h)
 have HNUM : Hid (0 ≤ x.num ∧ x.num ≤ 4294967295) := ⟨h.numLo, h.numHi⟩
 have HSZ := Lib.hid h.size
 clear h
 obtain ⟨W0, hW0⟩ : ∃ W0, W0 = w.alloc (.cells cs 34) := ⟨_, rfl⟩
 have hW0s : W0.heap.size = w.heap.size + 1 := by rw [hW0]; simp
 obtain ⟨v1, v2, hx⟩ := HX.out
 rw [← hW0] at hx
 have HC := Lib.hid hx
 clear hx HX
 have hB0 : Below (w.heap.size + 1) W0 W0 := Below.refl _ _
 have HW0 := Lib.hid hW0
 clear hW0
 go_enter func50, ntmps50
 go_upto_region 1 with fail
 rw [← HW0.out]
 clear HW0
 apply wR
 refine yb (.agg (cs)) hB0 (yA 34 w.heap.size 0 cs underlying34 (infoHd.trans (congrArg some HSZ.out.symm)) (fun w h => (HC.out w h).1.all)) ?_
 refine cC func69 #[.agg (cs)] (made_none cs x _ (HC.out _ hB0).1.hd hms (hA.mono (HC.out _ hB0).2) HL) ?_
 rintro e w1 ⟨rfl, hb1⟩
 refine cR ?_
 obtain ⟨hS1, hz1⟩ := zB hB0 hb1
 refine pQ [.nilIface] ?_
 have HS1 := Lib.hid hS1
 have hR := Below.refl w1.heap.size w1
 have ct := (HC.out w1 HS1.out).1.t
 rw [ht] at ct
 go_upto_region 17 with fail
 clear ct
 refine pR [.pointer (some ⟨w.heap.size, 15, none⟩)] ?_
 refine yb (.int .u32 x.num) hR (yL underlying32 (fun w h => (HC.out w (HS1.out.trans (h.mono (by have := HS1.out.size; omega)))).1.num)) ?_
 refine cN #[.int .u32 0] 130 ?_
 intro b2 w2 b2_ge b2_lt hT hb2
 obtain ⟨hS2, hz2⟩ := zB hR hb2
 refine wP ?_
 refine Wl.step (fun K hK => ?_)
 refine step_store_one rfl 130 _ _ rfl (b2) (.int .u32 x.num) (by kernel_rfl) (by kernel_rfl) 130 hT.row (infoCL) (by kernel_rfl) ?_
 obtain ⟨w3, hw3⟩ : ∃ W, W = World.setRow w2 (b2) (#[.int .u32 x.num]) := ⟨_, rfl⟩
 rw [← hw3]
 have hS3 : Below (w1.heap.size) w1 w3 := by rw [hw3]; exact hS2.trans (below_setRow (w1.heap.size) _ (b2) _ (by omega))
 have hz3 := hS3.size
 replace hw3 := Lib.hid hw3
 refine hK _ _ ?_
 clear hK K
 (try simp only [Act.put, zD, zE, zF])
 refine wN ?_
 have hT2 := hT.set #[.int .u32 x.num]
 rw [← hw3.out] at hT2
 go_wp2
 go_ret
 refine ⟨_, toSU x.uri, rfl, ?_, fun _ => rfl, (HC.out w1 HS1.out).2.trans (hS3.mono (by have := HS1.out.size; omega))⟩
 have hsu : toSHu x (toSU x.uri) = { (default : SH) with t := 8, n := x.num } := by unfold toSHu; rw [ht]; rfl
 rw [hsu]
 exact ⟨_, _, rfl, hT2, SHR.of_num (by unfold sNum; simp) ⟨rfl, HNUM.out.1, HNUM.out.2⟩⟩
theorem header_t5 (cs : Array Value) (x : Hd) (w : World) (h : HdR w cs x) (ht : x.t = 5) (hA : AddrOK w x.uri) (HL : Hid (x.ps.length ≤ 1048576)) :
 Calls Tryz.prog 50 #[.agg cs] w fun e w' => ∃ v u, e = .returned v ∧ HObj w' v (toSHu x u) ∧ (x.uri.raw = [] → u = toSU x.uri) ∧ Below w.heap.size w w' := by
 have hms : madeSort x.t = false := by rw [ht]; decide
 have HX := Lib.hid (hdC2 cs x w h)
 have HNUM : Hid (0 ≤ x.num ∧ x.num ≤ 4294967295) := ⟨h.numLo, h.numHi⟩
 have HSZ := Lib.hid h.size
 clear h
 obtain ⟨W0, hW0⟩ : ∃ W0, W0 = w.alloc (.cells cs 34) := ⟨_, rfl⟩
 have hW0s : W0.heap.size = w.heap.size + 1 := by rw [hW0]; simp
 obtain ⟨v1, v2, hx⟩ := HX.out
 rw [← hW0] at hx
 have HC := Lib.hid hx
 clear hx HX
 have hB0 : Below (w.heap.size + 1) W0 W0 := Below.refl _ _
 have HW0 := Lib.hid hW0
 clear hW0
 go_enter func50, ntmps50
 go_upto_region 1 with fail
 rw [← HW0.out]
 clear HW0
 apply wR
 refine yb (.agg (cs)) hB0 (yA 34 w.heap.size 0 cs underlying34 (infoHd.trans (congrArg some HSZ.out.symm)) (fun w h => (HC.out w h).1.all)) ?_
 refine cC func69 #[.agg (cs)] (made_none cs x _ (HC.out _ hB0).1.hd hms (hA.mono (HC.out _ hB0).2) HL) ?_
 rintro e w1 ⟨rfl, hb1⟩
 refine cR ?_
 obtain ⟨hS1, hz1⟩ := zB hB0 hb1
 refine pQ [.nilIface] ?_
 have HS1 := Lib.hid hS1
 have hR := Below.refl w1.heap.size w1
 have ct := (HC.out w1 HS1.out).1.t
 rw [ht] at ct
 go_upto_region 9 with fail
 clear ct
 refine pR [.pointer (some ⟨w.heap.size, 15, none⟩)] ?_
 refine yb (.int .u32 x.num) hR (yL underlying32 (fun w h => (HC.out w (HS1.out.trans (h.mono (by have := HS1.out.size; omega)))).1.num)) ?_
 refine pP [.pointer (some ⟨w.heap.size, 2, none⟩)] ?_
 refine yb v2 hR (yL underlying22 (fun w h => (HC.out w (HS1.out.trans (h.mono (by have := HS1.out.size; omega)))).1.text)) ?_
 refine yb (.string (mk x.text)) hR (yE 22 109 (v2) (fun w h => conv_t ((HC.out w (HS1.out.trans (h.mono (by have := HS1.out.size; omega)))).1.rtext) 109 underlying109)) ?_
 refine pP [.agg #[.int .u32 x.num, .string (mk x.text)]] ?_
 refine cN #[.int .u32 x.num, .string (mk x.text)] 126 ?_
 intro b2 w2 b2_ge b2_lt hT hb2
 obtain ⟨hS2, hz2⟩ := zB hR hb2
 refine wP ?_
 refine pQ [.iface 95 (.pointer (some ⟨b2, 0, none⟩)), .iface 95 (.pointer (some ⟨b2, 0, none⟩))] ?_
 go_wp2
 go_ret
 refine ⟨_, toSU x.uri, rfl, ?_, fun _ => rfl, (HC.out w1 HS1.out).2.trans (hS2.mono (by have := HS1.out.size; omega))⟩
 have hsu : toSHu x (toSU x.uri) = { (default : SH) with t := 5, n := x.num, s1 := mk x.text } := by unfold toSHu; rw [ht]; rfl
 rw [hsu]
 exact ⟨_, _, rfl, hT, SHR.of_seq rfl ⟨rfl, HNUM.out.1, HNUM.out.2⟩⟩
theorem header_tgen (cs : Array Value) (x : Hd) (w : World) (h : HdR w cs x) (ht : x.t ≠ 1 ∧ x.t ≠ 2 ∧ x.t ≠ 3 ∧ x.t ≠ 4 ∧ x.t ≠ 5 ∧ x.t ≠ 6 ∧ x.t ≠ 7 ∧ x.t ≠ 8 ∧ x.t ≠ 9 ∧ x.t ≠ 10 ∧ x.t ≠ 11 ∧ x.t ≠ 12 ∧ x.t ≠ 13 ∧ x.t ≠ 14) (hA : AddrOK w x.uri) (HL : Hid (x.ps.length ≤ 1048576)) :
 Calls Tryz.prog 50 #[.agg cs] w fun e w' => ∃ v u, e = .returned v ∧ HObj w' v (toSHu x u) ∧ (x.uri.raw = [] → u = toSU x.uri) ∧ Below w.heap.size w w' := by
 have hms : madeSort x.t = false := by simp [madeSort, addressed, routed]; omega
 have HX := Lib.hid (hdC2 cs x w h)
 have HNUM : Hid (0 ≤ x.num ∧ x.num ≤ 4294967295) := ⟨h.numLo, h.numHi⟩
 have HSZ := Lib.hid h.size
 clear h
 obtain ⟨W0, hW0⟩ : ∃ W0, W0 = w.alloc (.cells cs 34) := ⟨_, rfl⟩
 have hW0s : W0.heap.size = w.heap.size + 1 := by rw [hW0]; simp
 obtain ⟨v1, v2, hx⟩ := HX.out
 rw [← hW0] at hx
 have HC := Lib.hid hx
 clear hx HX
 have hB0 : Below (w.heap.size + 1) W0 W0 := Below.refl _ _
 have HW0 := Lib.hid hW0
 clear hW0
 go_enter func50, ntmps50
 go_upto_region 1 with fail
 rw [← HW0.out]
 clear HW0
 apply wR
 refine yb (.agg (cs)) hB0 (yA 34 w.heap.size 0 cs underlying34 (infoHd.trans (congrArg some HSZ.out.symm)) (fun w h => (HC.out w h).1.all)) ?_
 refine cC func69 #[.agg (cs)] (made_none cs x _ (HC.out _ hB0).1.hd hms (hA.mono (HC.out _ hB0).2) HL) ?_
 rintro e w1 ⟨rfl, hb1⟩
 refine cR ?_
 obtain ⟨hS1, hz1⟩ := zB hB0 hb1
 refine pQ [.nilIface] ?_
 have HS1 := Lib.hid hS1
 have hR := Below.refl w1.heap.size w1
 have ct := (HC.out w1 HS1.out).1.t
 have n4 : (x.t == 4) = false := beq_eq_false_iff_ne.2 (by omega)
 have n5 : (x.t == 5) = false := beq_eq_false_iff_ne.2 (by omega)
 have n6 : (x.t == 6) = false := beq_eq_false_iff_ne.2 (by omega)
 have n7 : (x.t == 7) = false := beq_eq_false_iff_ne.2 (by omega)
 have n8 : (x.t == 8) = false := beq_eq_false_iff_ne.2 (by omega)
 have n10 : (x.t == 10) = false := beq_eq_false_iff_ne.2 (by omega)
 have HT := Lib.hid ht
 clear ht
 go_upto_region 22 with fail
 clear ct
 refine pR [.pointer (some ⟨w.heap.size, 1, none⟩)] ?_
 refine yb v1 hR (yL underlying22 (fun w h => (HC.out w (HS1.out.trans (h.mono (by have := HS1.out.size; omega)))).1.name)) ?_
 refine yb (.string (mk x.name)) hR (yE 22 9 (v1) (fun w h => conv_b ((HC.out w (HS1.out.trans (h.mono (by have := HS1.out.size; omega)))).1.rname))) ?_
 refine pP [.pointer (some ⟨w.heap.size, 2, none⟩)] ?_
 refine yb v2 hR (yL underlying22 (fun w h => (HC.out w (HS1.out.trans (h.mono (by have := HS1.out.size; omega)))).1.text)) ?_
 refine yb (.string (mk x.text)) hR (yE 22 9 (v2) (fun w h => conv_b ((HC.out w (HS1.out.trans (h.mono (by have := HS1.out.size; omega)))).1.rtext))) ?_
 refine cC func70 #[.string (mk x.name), .string (mk x.text)] (newHeader_c (mk x.name) (mk x.text) _) ?_
 rintro e w2 ⟨v, rfl, hv, hb2⟩
 refine cR ?_
 obtain ⟨hS2, hz2⟩ := zB hR hb2
 refine pQ [v] ?_
 go_wp2
 go_ret
 refine ⟨v, rfl, toSU x.uri, ?_, fun _ => rfl, (HC.out w1 HS1.out).2.trans (hS2.mono (by have := HS1.out.size; omega))⟩
 have hsu : toSHu x (toSU x.uri) = { (default : SH) with t := 0, s1 := mk x.name, s2 := mk x.text } := by
  have := HT.out
  unfold toSHu
  rw [if_neg (by simp [addressed]; omega), if_neg (by simp [routed]; omega), if_neg (by simp [numbered]; omega), if_neg (by omega), if_neg (by omega), if_neg (by omega)]
 rw [hsu]
 exact hv
theorem header_c (cs : Array Value) (x : Hd) (w : World) (h : HdR w cs x) (hA : AddrOK w x.uri) (HL : Hid (x.ps.length ≤ 1048576)) :
 Calls Tryz.prog 50 #[.agg cs] w fun e w' => ∃ v u, e = .returned v ∧ HObj w' v (toSHu x u) ∧ (x.uri.raw = [] → u = toSU x.uri) ∧ Below w.heap.size w w' := by
 by_cases hm : madeSort x.t = true
 ·exact header_made cs x w h hm hA HL
 ·have hn : x.t ≠ 1 ∧ x.t ≠ 2 ∧ x.t ≠ 3 ∧ x.t ≠ 14 ∧ x.t ≠ 11 ∧ x.t ≠ 12 ∧ x.t ≠ 13 ∧ x.t ≠ 9 := by
   simp [madeSort, addressed, routed] at hm
   omega
  by_cases q4 : x.t = 4
  ·exact header_t4 cs x w h q4 hA HL
  by_cases q5 : x.t = 5
  ·exact header_t5 cs x w h q5 hA HL
  by_cases q6 : x.t = 6
  ·exact header_t6 cs x w h q6 hA HL
  by_cases q7 : x.t = 7
  ·exact header_t7 cs x w h q7 hA HL
  by_cases q8 : x.t = 8
  ·exact header_t8 cs x w h q8 hA HL
  by_cases q10 : x.t = 10
  ·exact header_t10 cs x w h q10 hA HL
  exact header_tgen cs x w h (by omega) hA HL
end Go.Proofs.YtfcllhdhfenmcaaGreatDoor
