/- What FollowSymbols returns and leaves: the symbol that stands for the group; links may be shortened, groups and uses stay. Conditions: the table lies in memory (Tab), links lead to symbols of smaller rank (Inv), InvalidRef holds what its initialiser lays. -/
import Derived.Test.YtbkgbnejmgjiiaaDoorWTab
import Derived.Deep.DeepCutAuto
import Derived.Deep.RegionWith
namespace Go.Proofs.YtbkgbnejmgjiiaaDoor
open Go.RowKit Go.Deep

structure Inv (V : Nat × Nat → Prop) (s : UF) (rk : Nat × Nat → Nat) (ρ : Nat × Nat → Nat × Nat) : Prop where
  root : ∀ x, V x → s.link x = none → ρ x = x
  step : ∀ x y, V x → s.link x = some y → V y ∧ rk y < rk x ∧ ρ y = ρ x
theorem Inv.rho {V : Nat × Nat → Prop} {s : UF} {rk : Nat × Nat → Nat} {ρ : Nat × Nat → Nat × Nat} (h : Inv V s rk ρ) : ∀ (k : Nat) (x : Nat × Nat), rk x ≤ k → V x → V (ρ x) ∧ s.link (ρ x) = none ∧ rk (ρ x) ≤ rk x ∧ ρ (ρ x) = ρ x := by
  intro k
  induction k with
  | zero =>
    intro x hk hx
    cases hl : s.link x with
    | none => rw [h.root x hx hl]; exact ⟨hx, hl, Nat.le_refl _, h.root x hx hl⟩
    | some y => have := (h.step x y hx hl).2.1; omega
  | succ k ih =>
    intro x hk hx
    cases hl : s.link x with
    | none => rw [h.root x hx hl]; exact ⟨hx, hl, Nat.le_refl _, h.root x hx hl⟩
    | some y =>
      obtain ⟨hy, hr, he⟩ := h.step x y hx hl
      have := ih y (by omega) hy
      rw [he] at this
      exact ⟨this.1, this.2.1, by omega, this.2.2.2⟩
theorem Inv.set {V : Nat × Nat → Prop} {s : UF} {rk : Nat × Nat → Nat} {ρ : Nat × Nat → Nat × Nat} (h : Inv V s rk ρ) {x y : Nat × Nat} (hy : V y) (hr : rk y < rk x) (he : ρ y = ρ x) : Inv V (s.setLink x y) rk ρ := by
  constructor
  · intro z hz hl
    by_cases e : z = x
    · subst e; simp [UF.setLink] at hl
    · exact h.root z hz (by simpa [UF.setLink, e] using hl)
  · intro z u hz hl
    by_cases e : z = x
    · subst e
      simp [UF.setLink] at hl
      subst hl
      exact ⟨hy, hr, he⟩
    · exact h.step z u hz (by simpa [UF.setLink, e] using hl)

/-- the invalid reference, as its initialiser lays it -/
structure InvRef (w : World) : Prop where
  size3 : 3 ≤ w.heap.size
  c20 : w.cell? ⟨2, 0, none⟩ = some (.int .u32 4294967295)
  c21 : w.cell? ⟨2, 1, none⟩ = some (.int .u32 4294967295)
theorem InvRef.below {B : Nat} {w w' : World} (h : InvRef w) (hb : Below B w w') (hB : 3 ≤ B) : InvRef w' where
  size3 := Nat.le_trans h.size3 hb.size
  c20 := (hb.cell (p := ⟨2, 0, none⟩) (show 2 < B by omega)).trans h.c20
  c21 := (hb.cell (p := ⟨2, 1, none⟩) (show 2 < B by omega)).trans h.c21

/-- what FollowSymbols leaves -/
def Followed (T : Tbl) (base : Nat) (s : UF) (rk : Nat × Nat → Nat) (ρ : Nat × Nat → Nat × Nat) (w w' : World) : Prop :=
  ∃ s', Tab T base s' w' ∧ Inv T.V s' rk ρ ∧ s'.uses = s.uses ∧ Kp T w w'

theorem cell_lt' {W : World} {a : Addr} {v : Value} (h : W.cell? a = some v) : a.block < W.heap.size := by
  rcases Nat.lt_or_ge a.block W.heap.size with h' | h'
  · exact h'
  · simp [World.cell?, Array.getElem?_eq_none h'] at h
/-- a block that holds a reference -/
def At2 (w : World) (g : Nat) (a b : Int) : Prop := w.heap[g]? = some (.cells #[.int .u32 a, .int .u32 b] 100 (0, 0))
section
variable {w w' : World} {g : Nat} {a b : Int}
theorem At2.c0 (h : At2 w g a b) : w.cell? ⟨g, 0, none⟩ = some (.int .u32 a) := by rw [Lib.cell_of_heap h]; rfl
theorem At2.c1 (h : At2 w g a b) : w.cell? ⟨g, 1, none⟩ = some (.int .u32 b) := by rw [Lib.cell_of_heap h]; rfl
theorem At2.free (h : At2 w g a b) (o : Nat) : w.frozen? ⟨g, o, none⟩ = false := Lib.frozen_of_heap h o
theorem At2.lt (h : At2 w g a b) : g < w.heap.size := (Array.getElem?_eq_some_iff.1 h).1
theorem At2.kp {T : Tbl} (h : At2 w g a b) (k : Kp T w w') (hn : ∀ f, f < T.nf → g ≠ T.B f) : At2 w' g a b := (k.block g h.lt hn).trans h
theorem At2.below (h : At2 w g a b) (k : Below w.heap.size w w') : At2 w' g a b := (k.block g h.lt).trans h
theorem At2.alloc (h : At2 w g a b) (o : Obj) : At2 (w.alloc o) g a b := (Below.heap_alloc w o g h.lt).trans h
theorem At2.drewN (h : At2 w g a b) (n : Nat) : At2 (w.drewN n) g a b := h
theorem At2.new (w : World) (a b : Int) : At2 (w.alloc (.cells #[.int .u32 a, .int .u32 b] 100)) w.heap.size a b := heap_alloc_new w _
theorem At2.put (h : At2 w g a b) (c d : Int) : At2 ((w.setCell ⟨g, 0, none⟩ (.int .u32 c)).setCell ⟨g, 1, none⟩ (.int .u32 d)) g c d := by
  unfold At2 at *
  rw [heap_setCell_same _ g 1 #[.int .u32 c, .int .u32 b] 100 _ (by rw [heap_setCell_same _ g 0 _ 100 _ h]; rfl)]
  rfl
theorem At2.far (h : At2 w g a b) {p : Addr} (hp : g ≠ p.block) (u : Value) : At2 (w.setCell p u) g a b := (Below.heap_setCell w p u g hp).trans h
end
theorem link_none {s : UF} {x : Nat × Nat} (h : s.link x = none) : ((linkA s x == 4294967295) && (linkB s x == 4294967295)) = true := by simp [linkA, linkB, h]
theorem link_some {T : Tbl} {base : Nat} {w : World} {s : UF} {x y : Nat × Nat} (h : s.link x = some y) (ht : Tab T base s w) (hy : T.V y) : ((linkA s x == 4294967295) && (linkB s x == 4294967295)) = false := by
  have h1 := hy.1
  have h2 := ht.few
  simp [linkA, linkB, h]
  omega
theorem Kp.setNew {T : Tbl} {a b : World} (h : Kp T a b) {p : Addr} (hp : a.heap.size ≤ p.block) (v : Value) : Kp T a (b.setCell p v) :=
  ⟨h.os, h.tape, h.output, by simpa [World.setCell] using h.size, fun i hi hn => (Below.heap_setCell b p v i (by omega)).trans (h.block i hi hn)⟩
theorem Tab.setFar {T : Tbl} {base : Nat} {s : UF} {w : World} (h : Tab T base s w) {p : Addr} (hS : p.block ≠ T.S) (hB : ∀ f, f < T.nf → p.block ≠ T.B f) (v : Value) : Tab T base s (w.setCell p v) :=
  { h with outer := h.outer.setOther (fun e => hS e.symm) v, inner := fun f hf => (h.inner f hf).setOther (fun e => hB f hf e.symm) v }
theorem Tab.drewN {T : Tbl} {base : Nat} {s : UF} {w : World} (h : Tab T base s w) (n : Nat) : Tab T base s (w.drewN n) := { h with }
theorem Kp.drewN {T : Tbl} {a b : World} (h : Kp T a b) (n : Nat) : Kp T a (b.drewN n) := ⟨h.os, h.tape, h.output, h.size, h.block⟩

set_option maxHeartbeats 1000000 in
set_option maxRecDepth 100000 in
theorem follow_root (T : Tbl) (base : Nat) (s : UF) (rk : Nat × Nat → Nat) (ρ : Nat × Nat → Nat × Nat) (w : World) (x : Nat × Nat) (ht : Tab T base s w) (hi : InvRef w) (hv : Inv T.V s rk ρ) (hx : T.V x) (hl : s.link x = none) :
    Calls Tryd.prog 49 #[.agg #[.slice (some ⟨T.S, 0, none⟩) T.nf T.nf], .agg #[.int .u32 (x.1 : Int), .int .u32 (x.2 : Int)]] w fun e w' => e = .returned (.agg #[.int .u32 ((ρ x).1 : Int), .int .u32 ((ρ x).2 : Int)]) ∧ Followed T base s rk ρ w w' := by
  have HT := Lib.hid ht
  have HI := Lib.hid hi
  have HV := Lib.hid hv
  have HX := Lib.hid hx
  have HE := Lib.hid (hv.root x hx hl)
  have HL := Lib.hid hl
  clear ht hi hv hx hl
  have hql := eql_ref
  go_enter Tryd.func49, Tryd.ntmps49
  go_wp2_with fail
  have hb0 := Lib.hid ((((Below.refl w.heap.size w).alloc (Nat.le_refl _) (.cells #[.slice (some ⟨T.S, 0, none⟩) T.nf T.nf] 94)).alloc (by simp) (.cells #[.int .u32 (x.1 : Int), .int .u32 (x.2 : Int)] 100)).alloc (by simp; omega) (.cells #[.int .u32 0, .int .u32 0] 100))
  have hA1 : At2 (((w.alloc (.cells #[.slice (some ⟨T.S, 0, none⟩) T.nf T.nf] 94)).alloc (.cells #[.int .u32 (x.1 : Int), .int .u32 (x.2 : Int)] 100)).alloc (.cells #[.int .u32 0, .int .u32 0] 100)) (w.heap.size + 1) x.1 x.2 := by
    have := (At2.new (w.alloc (.cells #[.slice (some ⟨T.S, 0, none⟩) T.nf T.nf] 94)) x.1 x.2).alloc (.cells #[.int .u32 0, .int .u32 0] 100)
    rw [World.size_alloc] at this
    exact this
  have hA2 : At2 (((w.alloc (.cells #[.slice (some ⟨T.S, 0, none⟩) T.nf T.nf] 94)).alloc (.cells #[.int .u32 (x.1 : Int), .int .u32 (x.2 : Int)] 100)).alloc (.cells #[.int .u32 0, .int .u32 0] 100)) (w.heap.size + 2) 0 0 := by
    have := At2.new ((w.alloc (.cells #[.slice (some ⟨T.S, 0, none⟩) T.nf T.nf] 94)).alloc (.cells #[.int .u32 (x.1 : Int), .int .u32 (x.2 : Int)] 100)) 0 0
    rw [World.size_alloc, World.size_alloc] at this
    exact this
  generalize ((w.alloc (.cells #[.slice (some ⟨T.S, 0, none⟩) T.nf T.nf] 94)).alloc (.cells #[.int .u32 (x.1 : Int), .int .u32 (x.2 : Int)] 100)).alloc (.cells #[.int .u32 0, .int .u32 0] 100) = W at *
  have HT0 := HT.out.sub hb0.out
  refine (get_any T base s W x HT0 HX.out).mono ?_
  rintro e w1 ⟨rfl, hb1⟩
  have HT1 := Lib.hid (HT0.sub hb1)
  have HB1 := Lib.hid (hb0.out.trans (hb1.mono hb0.out.size))
  have HA1 := Lib.hid (hA1.below hb1)
  have HA2 := Lib.hid (hA2.below hb1)
  have HI1 := Lib.hid (HI.out.below HB1.out HI.out.size3)
  clear hb1 hA1 hA2 HT0 hb0
  have c20 := HI1.out.c20
  have c21 := HI1.out.c21
  have l0 := (HT1.out.linkCells HX.out).1
  have l1 : w1.cell? ⟨T.B x.1, x.2 * 10 + 2 + 1, none⟩ = some (.int .u32 (linkB s x)) := (HT1.out.linkCells HX.out).2
  have hn := link_none HL.out
  have r0 := HA1.out.c0
  have r1 := HA1.out.c1
  have q0 := HA2.out.c0
  have q1 := HA2.out.c1
  have f0 := HA2.out.free 0
  have f1 := HA2.out.free 1
  go_wp2
  go_quiet (fail)
  go_wp2
  refine bodyPost_ret (v := .agg #[.int .u32 (x.1 : Int), .int .u32 (x.2 : Int)]) (by simp [results, Tryd.results49, go_sem, q0, q1]) rfl ⟨?_, ?_⟩
  · rw [HE.out]
  · refine ⟨s, ?_, HV.out, rfl, ?_⟩
    · have hS := HT.out.outer.lt
      have hB := fun f hf => (HT.out.inner f hf).lt
      exact (((HT1.out.drewN nq).setFar (p := ⟨w.heap.size + 2, 0, none⟩) (by show w.heap.size + 2 ≠ T.S; omega) (fun f hf => by have := hB f hf; show w.heap.size + 2 ≠ T.B f; omega) _).setFar (p := ⟨w.heap.size + 2, 1, none⟩) (by show w.heap.size + 2 ≠ T.S; omega) (fun f hf => by have := hB f hf; show w.heap.size + 2 ≠ T.B f; omega) _)
    · exact ((Kp.of_below HB1.out).drewN nq).setNew (p := ⟨w.heap.size + 2, 0, none⟩) (by show _ ≤ w.heap.size + 2; omega) _ |>.setNew (p := ⟨w.heap.size + 2, 1, none⟩) (by show _ ≤ w.heap.size + 2; omega) _
/-- what stands in the middle of 'link := FollowSymbols(symbols, symbol.Link)' -/
structure IF4 (T : Tbl) (base N : Nat) (s : UF) (rk : Nat × Nat → Nat) (ρ : Nat × Nat → Nat × Nat) (x y : Nat × Nat) (W : World) (u10 u11 u12 u13 u14 u15 : Value) (b0 b1 b2 b3 b4 b5 b6 b7 : Bool) (a : Act) (w : World) : Prop where
  st : ∃ s', Tab T base s' w ∧ Inv T.V s' rk ρ ∧ s'.uses = s.uses ∧ Kp T W w ∧ (b5 = false → s' = s)
  p5 : b5 = true → b4 = true
  p7 : b7 = true → b6 = true
  fr : ∃ s6 s17 s18 s19 s20 s21 s22, a = ⟨#[.agg #[.slice (some ⟨T.S, 0, none⟩) T.nf T.nf], .agg #[.int .u32 (x.1 : Int), .int .u32 (x.2 : Int)], .pointer (some ⟨N, 0, none⟩), .pointer (some ⟨N + 1, 0, none⟩), .pointer (some ⟨N + 1 + 1, 0, none⟩), .pointer (some ⟨T.B x.1, x.2 * 10, none⟩), s6, .agg #[.slice (some ⟨T.S, 0, none⟩) T.nf T.nf], .agg #[.int .u32 (x.1 : Int), .int .u32 (x.2 : Int)], .pointer (some ⟨T.B x.1, x.2 * 10, none⟩), u10, u11, u12, u13, u14, u15, undef, s17, s18, s19, s20, s21, s22, undef, undef, undef, undef, undef, undef, undef, undef, undef, undef, undef], []⟩ ∧
    (b0 = true → s17 = .agg #[.slice (some ⟨T.S, 0, none⟩) T.nf T.nf]) ∧ (b1 = true → s18 = .pointer (some ⟨T.B x.1, x.2 * 10, none⟩)) ∧ (b2 = true → s19 = .pointer (some ⟨T.B x.1, x.2 * 10, none⟩)) ∧ (b3 = true → s20 = .pointer (some ⟨T.B x.1, x.2 * 10 + 2, none⟩)) ∧
    (b4 = true → s21 = .agg #[.int .u32 (y.1 : Int), .int .u32 (y.2 : Int)]) ∧ (b5 = true → s22 = .agg #[.int .u32 ((ρ x).1 : Int), .int .u32 ((ρ x).2 : Int)]) ∧
    (b6 = true → ∃ g, s6 = .pointer (some ⟨g, 0, none⟩) ∧ W.heap.size ≤ g ∧ At2 w g (if b7 then (ρ x).1 else 0) (if b7 then (ρ x).2 else 0))

/-- the call of itself, met -/
def FollowIH (T : Tbl) (base : Nat) (rk : Nat × Nat → Nat) (ρ : Nat × Nat → Nat × Nat) (y : Nat × Nat) : Prop :=
  ∀ (s : UF) (w : World), Tab T base s w → InvRef w → Inv T.V s rk ρ →
    Calls Tryd.prog 49 #[.agg #[.slice (some ⟨T.S, 0, none⟩) T.nf T.nf], .agg #[.int .u32 (y.1 : Int), .int .u32 (y.2 : Int)]] w fun e w' => e = .returned (.agg #[.int .u32 ((ρ y).1 : Int), .int .u32 ((ρ y).2 : Int)]) ∧ Followed T base s rk ρ w w'

theorem linkA_some {s : UF} {x y : Nat × Nat} (h : s.link x = some y) : linkA s x = (y.1 : Int) ∧ linkB s x = (y.2 : Int) := by simp [linkA, linkB, h]

set_option maxHeartbeats 2000000 in
set_option maxRecDepth 100000 in
theorem follow_step (T : Tbl) (base : Nat) (s : UF) (rk : Nat × Nat → Nat) (ρ : Nat × Nat → Nat × Nat) (w : World) (x y : Nat × Nat) (ht : Tab T base s w) (hi : InvRef w) (hb3 : 3 ≤ base) (hv : Inv T.V s rk ρ) (hx : T.V x) (hl : s.link x = some y) (ih : FollowIH T base rk ρ y) :
    Calls Tryd.prog 49 #[.agg #[.slice (some ⟨T.S, 0, none⟩) T.nf T.nf], .agg #[.int .u32 (x.1 : Int), .int .u32 (x.2 : Int)]] w fun e w' => e = .returned (.agg #[.int .u32 ((ρ x).1 : Int), .int .u32 ((ρ x).2 : Int)]) ∧ Followed T base s rk ρ w w' := by
  have HT := Lib.hid ht
  have HI := Lib.hid hi
  have HV := Lib.hid hv
  have HX := Lib.hid hx
  have HS := Lib.hid (hv.step x y hx hl)
  have HL := Lib.hid hl
  have HIH := Lib.hid ih
  clear ht hi hv hx hl ih
  have hql := eql_ref
  have hnq := neq_ref
  go_enter Tryd.func49, Tryd.ntmps49
  go_wp2_with fail
  have hb0 := Lib.hid ((((Below.refl w.heap.size w).alloc (Nat.le_refl _) (.cells #[.slice (some ⟨T.S, 0, none⟩) T.nf T.nf] 94)).alloc (by simp) (.cells #[.int .u32 (x.1 : Int), .int .u32 (x.2 : Int)] 100)).alloc (by simp; omega) (.cells #[.int .u32 0, .int .u32 0] 100))
  have hA0 : (((w.alloc (.cells #[.slice (some ⟨T.S, 0, none⟩) T.nf T.nf] 94)).alloc (.cells #[.int .u32 (x.1 : Int), .int .u32 (x.2 : Int)] 100)).alloc (.cells #[.int .u32 0, .int .u32 0] 100)).cell? ⟨w.heap.size, 0, none⟩ = some (.slice (some ⟨T.S, 0, none⟩) T.nf T.nf) := by go_simp
  have hA2 : At2 (((w.alloc (.cells #[.slice (some ⟨T.S, 0, none⟩) T.nf T.nf] 94)).alloc (.cells #[.int .u32 (x.1 : Int), .int .u32 (x.2 : Int)] 100)).alloc (.cells #[.int .u32 0, .int .u32 0] 100)) (w.heap.size + 1 + 1) 0 0 := by
    have := At2.new ((w.alloc (.cells #[.slice (some ⟨T.S, 0, none⟩) T.nf T.nf] 94)).alloc (.cells #[.int .u32 (x.1 : Int), .int .u32 (x.2 : Int)] 100)) 0 0
    rw [World.size_alloc, World.size_alloc] at this
    exact this
  generalize ((w.alloc (.cells #[.slice (some ⟨T.S, 0, none⟩) T.nf T.nf] 94)).alloc (.cells #[.int .u32 (x.1 : Int), .int .u32 (x.2 : Int)] 100)).alloc (.cells #[.int .u32 0, .int .u32 0] 100) = W at *
  have HT0 := HT.out.sub hb0.out
  refine (get_any T base s W x HT0 HX.out).mono ?_
  rintro e w1 ⟨rfl, hb1⟩
  have HT1 := Lib.hid (HT0.sub hb1)
  have HB1 := Lib.hid (hb0.out.trans (hb1.mono hb0.out.size))
  have HA0 := Lib.hid ((hb1.cell (p := ⟨w.heap.size, 0, none⟩) (cell_lt' hA0)).trans hA0)
  have HA2 := Lib.hid (hA2.below hb1)
  have HI1 := Lib.hid (HI.out.below HB1.out HI.out.size3)
  clear hb1 hA0 hA2 HT0 hb0
  have c20 := HI1.out.c20
  have c21 := HI1.out.c21
  have l0 := (HT1.out.linkCells HX.out).1
  have l1 : w1.cell? ⟨T.B x.1, x.2 * 10 + 2 + 1, none⟩ = some (.int .u32 (linkB s x)) := (HT1.out.linkCells HX.out).2
  have hn := link_some HL.out HT1.out HS.out.1
  go_wp2
  go_quiet (fail)
  clear c20 c21 l0 l1 hn
  go_upto_region 4 with fail
  have hSlt := HT.out.outer.lt
  have hBlt0 := fun f hf => (HT.out.inner f hf).lt
  have hwsz := HB1.out.size
  have HTD := Lib.hid (HT1.out.drewN nq)
  have HI1 := Lib.hid (show InvRef (w1.drewN nq) from ⟨HI1.out.size3, HI1.out.c20, HI1.out.c21⟩)
  have HA0 : Hid ((w1.drewN nq).cell? ⟨w.heap.size, 0, none⟩ = some (.slice (some ⟨T.S, 0, none⟩) T.nf T.nf)) := HA0.out
  have HA2 : Hid (At2 (w1.drewN nq) (w.heap.size + 1 + 1) 0 0) := HA2.out
  have HKD : Hid (Kp T w (w1.drewN nq)) := (Kp.of_below HB1.out).drewN nq
  have hsz1 : w.heap.size + 1 + 1 < (w1.drewN nq).heap.size := HA2.out.lt
  clear HT1 HB1 hwsz
  generalize w1.drewN nq = W1 at *
  have hBlt : ∀ f, f < T.nf → T.B f < w.heap.size := hBlt0
  have HBLT := Lib.hid hBlt
  clear hBlt0 hBlt
  go_cut [6] (fun s6 wx => ∃ g, s6 = .pointer (some ⟨g, 0, none⟩) ∧ W1.heap.size ≤ g ∧ Hid (At2 wx g (ρ x).1 (ρ x).2) ∧ Hid (Followed T base s rk ρ W1 wx))
  case first =>
    have hBlt := HBLT.out
    clear hql hnq
    refine wp_region_inv (by kernel_rfl) (by kernel_rfl) (fun L => IF4 T base w.heap.size s rk ρ x y W1 (.pointer (some ⟨T.B x.1, x.2 * 10, none⟩)) (.pointer (some ⟨T.B x.1, x.2 * 10, none⟩)) (.pointer (some ⟨T.B x.1, x.2 * 10 + 2, none⟩)) (.agg #[.int .u32 (linkA s x), .int .u32 (linkB s x)]) (.agg #[.int .u32 4294967295, .int .u32 4294967295]) (.bool false) (L 0) (L 1) (L 2) (L 3) (L 4) (L 5) (L 6) (L 7)) ?cong ?start ?step ?fin
    case cong =>
      intro L L' a w h hI
      rw [h 0 (by decide), h 1 (by decide), h 2 (by decide), h 3 (by decide), h 4 (by decide), h 5 (by decide), h 6 (by decide), h 7 (by decide)] at hI
      exact hI
    case start =>
      exact ⟨⟨s, HTD.out.drewN 1, HV.out, rfl, (Kp.refl T W1).drewN 1, fun _ => rfl⟩, fun h => (by cases h), fun h => (by cases h), undef, undef, undef, undef, undef, undef, undef, rfl, fun h => (by cases h), fun h => (by cases h), fun h => (by cases h), fun h => (by cases h), fun h => (by cases h), fun h => (by cases h), fun h => (by cases h)⟩
    case step =>
      intro i o L a w' ho hL he hIn
      have hi : i < 8 := (Array.getElem?_eq_some_iff.1 ho).1
      have hcases : i = 0 ∨ i = 1 ∨ i = 2 ∨ i = 3 ∨ i = 4 ∨ i = 5 ∨ i = 6 ∨ i = 7 := by omega
      clear hi
      rcases hcases with rfl | rfl | rfl | rfl | rfl | rfl | rfl | rfl
      · -- operation 0
        obtain rfl := Option.some.inj ho
        obtain ⟨⟨s', hT, hI, hU, hK, hss⟩, p5, p7, s6, s17, s18, s19, s20, s21, s22, rfl, e0, e1, e2, e3, e4, e5, e6⟩ := hIn
        have c0 : w'.cell? ⟨w.heap.size, 0, none⟩ = some (.slice (some ⟨T.S, 0, none⟩) T.nf T.nf) := (hK.cell (p := ⟨w.heap.size, 0, none⟩) (cell_lt' HA0.out) (fun f hf e => by have := hBlt f hf; simp only at e; omega)).trans HA0.out
        go_wp2
        exact ⟨⟨s', hT, hI, hU, hK, hss⟩, p5, p7, s6, .agg #[.slice (some ⟨T.S, 0, none⟩) T.nf T.nf], s18, s19, s20, s21, s22, rfl, fun _ => rfl, e1, e2, e3, e4, e5, e6⟩
      · -- operation 1
        obtain rfl := Option.some.inj ho
        obtain ⟨⟨s', hT, hI, hU, hK, hss⟩, p5, p7, s6, s17, s18, s19, s20, s21, s22, rfl, e0, e1, e2, e3, e4, e5, e6⟩ := hIn
        go_wp2
        exact ⟨⟨s', hT, hI, hU, hK, hss⟩, p5, p7, s6, s17, .pointer (some ⟨T.B x.1, x.2 * 10, none⟩), s19, s20, s21, s22, rfl, e0, fun _ => rfl, e2, e3, e4, e5, e6⟩
      · -- operation 2
        obtain rfl := Option.some.inj ho
        have l1 : L 1 = true := he ⟨1, .data⟩ (by simp) rfl
        clear he
        obtain ⟨⟨s', hT, hI, hU, hK, hss⟩, p5, p7, s6, s17, s18, s19, s20, s21, s22, rfl, e0, e1, e2, e3, e4, e5, e6⟩ := hIn
        obtain rfl := e1 l1
        go_wp2
        exact ⟨⟨s', hT, hI, hU, hK, hss⟩, p5, p7, s6, s17, .pointer (some ⟨T.B x.1, x.2 * 10, none⟩), .pointer (some ⟨T.B x.1, x.2 * 10, none⟩), s20, s21, s22, rfl, e0, fun _ => rfl, fun _ => rfl, e3, e4, e5, e6⟩
      · -- operation 3
        obtain rfl := Option.some.inj ho
        have l1 : L 2 = true := he ⟨2, .data⟩ (by simp) rfl
        clear he
        obtain ⟨⟨s', hT, hI, hU, hK, hss⟩, p5, p7, s6, s17, s18, s19, s20, s21, s22, rfl, e0, e1, e2, e3, e4, e5, e6⟩ := hIn
        obtain rfl := e2 l1
        go_wp2
        exact ⟨⟨s', hT, hI, hU, hK, hss⟩, p5, p7, s6, s17, s18, .pointer (some ⟨T.B x.1, x.2 * 10, none⟩), .pointer (some ⟨T.B x.1, x.2 * 10 + 2, none⟩), s21, s22, rfl, e0, e1, fun _ => rfl, fun _ => rfl, e4, e5, e6⟩
      · -- operation 4
        obtain rfl := Option.some.inj ho
        have l1 : L 3 = true := he ⟨3, .data⟩ (by simp) rfl
        clear he
        obtain ⟨⟨s', hT, hI, hU, hK, hss⟩, p5, p7, s6, s17, s18, s19, s20, s21, s22, rfl, e0, e1, e2, e3, e4, e5, e6⟩ := hIn
        obtain rfl := e3 l1
        have h5 : L 5 = false := by
          cases h : L 5 with
          | false => rfl
          | true => have h4 := p5 h; rw [h4] at hL; cases hL
        have hs1 := hss h5
        have k0 := (hT.linkCells HX.out).1
        have k1 : w'.cell? ⟨T.B x.1, x.2 * 10 + 2 + 1, none⟩ = some (.int .u32 (linkB s' x)) := (hT.linkCells HX.out).2
        rw [hs1, (linkA_some HL.out).1] at k0
        rw [hs1, (linkA_some HL.out).2] at k1
        have HSS := Lib.hid hs1
        clear hs1
        go_wp2
        exact ⟨⟨s', hT, hI, hU, hK, hss⟩, fun _ => rfl, p7, s6, s17, s18, s19, .pointer (some ⟨T.B x.1, x.2 * 10 + 2, none⟩), .agg #[.int .u32 (y.1 : Int), .int .u32 (y.2 : Int)], s22, rfl, e0, e1, e2, fun _ => rfl, fun _ => rfl, e5, e6⟩
      · -- operation 5
        obtain rfl := Option.some.inj ho
        have l1 : L 0 = true := he ⟨0, .data⟩ (by simp) rfl
        have l2 : L 4 = true := he ⟨4, .data⟩ (by simp) rfl
        clear he
        obtain ⟨⟨s', hT, hI, hU, hK, hss⟩, p5, p7, s6, s17, s18, s19, s20, s21, s22, rfl, e0, e1, e2, e3, e4, e5, e6⟩ := hIn
        obtain rfl := e0 l1
        obtain rfl := e4 l2
        have HTT := Lib.hid hT
        have HII := Lib.hid hI
        have HKK := Lib.hid hK
        have HUU := Lib.hid hU
        have HSS := Lib.hid hss
        clear hT hI hK hU hss
        go_wp2_with fail
        refine (HIH.out s' w' HTT.out (HI1.out.below ((HKK.out.below HTD.out).trans (Below.refl _ _)) hb3) HII.out).mono ?_
        rw [HS.out.2.2]
        rintro e w2 ⟨rfl, s2, hT2, hI2, hU2, hK2⟩
        have f6 : L 6 = true → ∃ g, s6 = .pointer (some ⟨g, 0, none⟩) ∧ W1.heap.size ≤ g ∧ At2 w2 g (if L 7 then (ρ x).1 else 0) (if L 7 then (ρ x).2 else 0) := fun h => by
          obtain ⟨g, h1, h2, h3⟩ := e6 h
          exact ⟨g, h1, h2, h3.kp hK2 (fun f hf e => by have := hBlt f hf; omega)⟩
        have HF := Lib.hid f6
        have HST : Hid (∃ s', Tab T base s' w2 ∧ Inv T.V s' rk ρ ∧ s'.uses = s.uses ∧ Kp T W1 w2 ∧ (true = false → s' = s)) := ⟨s2, hT2, hI2, hU2.trans HUU.out, HKK.out.trans hK2, fun h => (by cases h)⟩
        clear hT2 hI2 hU2 hK2 f6
        go_wp2
        exact ⟨HST.out, fun _ => l2, p7, s6, .agg #[.slice (some ⟨T.S, 0, none⟩) T.nf T.nf], s18, s19, s20, .agg #[.int .u32 (y.1 : Int), .int .u32 (y.2 : Int)], .agg #[.int .u32 ((ρ x).1 : Int), .int .u32 ((ρ x).2 : Int)], rfl, fun _ => rfl, e1, e2, e3, fun _ => rfl, fun _ => rfl, HF.out⟩
      · -- operation 6
        obtain rfl := Option.some.inj ho
        obtain ⟨⟨s', hT, hI, hU, hK, hss⟩, p5, p7, s6, s17, s18, s19, s20, s21, s22, rfl, e0, e1, e2, e3, e4, e5, e6⟩ := hIn
        have h7 : L 7 = false := by
          cases h : L 7 with
          | false => rfl
          | true => have h6 := p7 h; rw [h6] at hL; cases hL
        have f6 : ∃ g, Value.pointer (some ⟨w'.heap.size, 0, none⟩) = .pointer (some ⟨g, 0, none⟩) ∧ W1.heap.size ≤ g ∧ At2 (w'.alloc (.cells #[.int .u32 0, .int .u32 0] 100)) g (if L 7 then (ρ x).1 else 0) (if L 7 then (ρ x).2 else 0) := ⟨w'.heap.size, rfl, hK.size, by rw [h7]; exact At2.new w' 0 0⟩
        have HF := Lib.hid f6
        have HST : Hid (∃ s', Tab T base s' (w'.alloc (.cells #[.int .u32 0, .int .u32 0] 100)) ∧ Inv T.V s' rk ρ ∧ s'.uses = s.uses ∧ Kp T W1 (w'.alloc (.cells #[.int .u32 0, .int .u32 0] 100)) ∧ (L 5 = false → s' = s)) := ⟨s', hT.sub ((Below.refl _ _).alloc (Nat.le_refl _) _), hI, hU, hK.trans (Kp.of_below ((Below.refl _ _).alloc (Nat.le_refl _) _)), hss⟩
        clear f6 h7 hT hI hU hK hss
        go_wp2
        exact ⟨HST.out, p5, fun _ => rfl, Value.pointer (some ⟨w'.heap.size, 0, none⟩), s17, s18, s19, s20, s21, s22, rfl, e0, e1, e2, e3, e4, e5, fun _ => HF.out⟩
      · -- operation 7
        obtain rfl := Option.some.inj ho
        have l1 : L 6 = true := he ⟨6, .data⟩ (by simp) rfl
        have l2 : L 5 = true := he ⟨5, .data⟩ (by simp) rfl
        clear he
        obtain ⟨⟨s', hT, hI, hU, hK, hss⟩, p5, p7, s6, s17, s18, s19, s20, s21, s22, rfl, e0, e1, e2, e3, e4, e5, e6⟩ := hIn
        obtain rfl := e5 l2
        obtain rfl := e4 (p5 l2)
        obtain ⟨g, rfl, hgt, hat⟩ := e6 l1
        have hL' : L 7 = false := hL
        rw [hL'] at hat
        have c0 := hat.c0
        have c1 := hat.c1
        have z0 := hat.free 0
        have z1 := hat.free 1
        have HAT := Lib.hid (hat.put (ρ x).1 (ρ x).2)
        have HST : Hid (∃ s', Tab T base s' ((w'.setCell ⟨g, 0, none⟩ (.int .u32 ((ρ x).1 : Int))).setCell ⟨g, 1, none⟩ (.int .u32 ((ρ x).2 : Int))) ∧ Inv T.V s' rk ρ ∧ s'.uses = s.uses ∧ Kp T W1 ((w'.setCell ⟨g, 0, none⟩ (.int .u32 ((ρ x).1 : Int))).setCell ⟨g, 1, none⟩ (.int .u32 ((ρ x).2 : Int))) ∧ (L 5 = false → s' = s)) :=
          ⟨s', (hT.setFar (p := ⟨g, 0, none⟩) (by show g ≠ T.S; omega) (fun f hf => by have := hBlt f hf; show g ≠ T.B f; omega) _).setFar (p := ⟨g, 1, none⟩) (by show g ≠ T.S; omega) (fun f hf => by have := hBlt f hf; show g ≠ T.B f; omega) _, hI, hU, (hK.setNew (p := ⟨g, 0, none⟩) hgt _).setNew (p := ⟨g, 1, none⟩) hgt _, hss⟩
        clear hT hI hU hK hss hat
        go_wp2
        exact ⟨HST.out, p5, fun _ => l1, Value.pointer (some ⟨g, 0, none⟩), s17, s18, s19, s20, .agg #[.int .u32 (y.1 : Int), .int .u32 (y.2 : Int)], .agg #[.int .u32 ((ρ x).1 : Int), .int .u32 ((ρ x).2 : Int)], rfl, e0, e1, e2, e3, fun _ => rfl, fun _ => rfl, fun _ => ⟨g, rfl, hgt, HAT.out⟩⟩
    case fin =>
      rintro a w' ⟨⟨s', hT, hI, hU, hK, hss⟩, p5, p7, s6, s17, s18, s19, s20, s21, s22, rfl, e0, e1, e2, e3, e4, e5, e6⟩
      obtain ⟨g, rfl, hgt, hat⟩ := e6 rfl
      dsimp only [Exit.then]
      go_wp2_with fail
      go_meet
      exact ⟨g, rfl, hgt, hat, s', hT, hI, hU, hK⟩
  case rest =>
    obtain ⟨g, rfl, hgt, HG, HF⟩ := hcut
    obtain ⟨s', hT, hI, hU, hK⟩ := HF.out
    have hBlt := HBLT.out
    have HRH := Lib.hid (HV.out.rho (rk y) y (Nat.le_refl _) HS.out.1)
    have hN2 : ∀ f, f < T.nf → w.heap.size + 1 + 1 ≠ T.B f := fun f hf e => by have := hBlt f hf; omega
    have hA2 : At2 wc (w.heap.size + 1 + 1) 0 0 := HA2.out.kp hK hN2
    have l0 := (hT.linkCells HX.out).1
    have l1 : wc.cell? ⟨T.B x.1, x.2 * 10 + 2 + 1, none⟩ = some (.int .u32 (linkB s' x)) := (hT.linkCells HX.out).2
    have fl0 := hT.free HX.out (x.2 * 10 + 2)
    have fl1 := hT.free HX.out (x.2 * 10 + 2 + 1)
    have g0 := HG.out.c0
    have g1 := HG.out.c1
    have q0 := hA2.c0
    have q1 := hA2.c1
    have f0 := hA2.free 0
    have f1 := hA2.free 1
    have hne2 : w.heap.size + 1 + 1 ≠ T.B x.1 := hN2 _ HX.out.1
    have hgne : g ≠ T.B x.1 := fun e => by have := hBlt _ HX.out.1; omega
    have hgN : g ≠ w.heap.size + 1 + 1 := by omega
    have HTT := Lib.hid hT
    have HII := Lib.hid hI
    have HUU := Lib.hid hU
    have HKK := Lib.hid hK
    have HN2 := Lib.hid hN2
    have HAA := Lib.hid hA2
    clear hT hI hU hK hN2 hA2 hql hBlt
    cases hcmp : (linkA s' x == ((ρ x).1 : Int)) && (linkB s' x == ((ρ x).2 : Int)) with
    | true =>
      go_wp2
      go_quiet (fail)
      go_wp2
      refine bodyPost_ret (v := .agg #[.int .u32 ((ρ x).1 : Int), .int .u32 ((ρ x).2 : Int)]) (by simp [results, Tryd.results49, go_sem, q0, q1]) rfl ⟨rfl, s', ?_, HII.out, HUU.out, ?_⟩
      · exact ((HTT.out.drewN nq).setFar (p := ⟨w.heap.size + 1 + 1, 0, none⟩) (by show w.heap.size + 1 + 1 ≠ T.S; omega) (fun f hf => HN2.out f hf) _).setFar (p := ⟨w.heap.size + 1 + 1, 1, none⟩) (by show w.heap.size + 1 + 1 ≠ T.S; omega) (fun f hf => HN2.out f hf) _
      · exact (((HKD.out.trans HKK.out).drewN nq).setNew (p := ⟨w.heap.size + 1 + 1, 0, none⟩) (by show _ ≤ w.heap.size + 1 + 1; omega) _).setNew (p := ⟨w.heap.size + 1 + 1, 1, none⟩) (by show _ ≤ w.heap.size + 1 + 1; omega) _
    | false =>
      go_wp2
      go_quiet (fail)
      go_wp2
      refine bodyPost_ret (v := .agg #[.int .u32 ((ρ x).1 : Int), .int .u32 ((ρ x).2 : Int)]) (by simp [results, Tryd.results49, go_sem, q0, q1]) rfl ⟨rfl, s'.setLink x (ρ x), ?_, ?_, HUU.out, ?_⟩
      · have hT2 := ((HTT.out.drewN nq).setLink HX.out (ρ x))
        exact (hT2.setFar (p := ⟨w.heap.size + 1 + 1, 0, none⟩) (by show w.heap.size + 1 + 1 ≠ T.S; omega) (fun f hf => HN2.out f hf) _).setFar (p := ⟨w.heap.size + 1 + 1, 1, none⟩) (by show w.heap.size + 1 + 1 ≠ T.S; omega) (fun f hf => HN2.out f hf) _
      · have h1 := HRH.out
        rw [HS.out.2.2] at h1
        exact HII.out.set h1.1 (by have := HS.out.2.1; omega) h1.2.2.2
      · have hx1 := HX.out.1
        exact (((((HKD.out.trans HKK.out).drewN nq).setCell hx1 (x.2 * 10 + 2) _).setCell hx1 (x.2 * 10 + 2 + 1) _).setNew (p := ⟨w.heap.size + 1 + 1, 0, none⟩) (by show _ ≤ w.heap.size + 1 + 1; omega) _).setNew (p := ⟨w.heap.size + 1 + 1, 1, none⟩) (by show _ ≤ w.heap.size + 1 + 1; omega) _

/-- FollowSymbols -/
theorem follow_any (T : Tbl) (base : Nat) (rk : Nat × Nat → Nat) (ρ : Nat × Nat → Nat × Nat) (hb3 : 3 ≤ base) : ∀ (k : Nat) (s : UF) (w : World) (x : Nat × Nat), rk x ≤ k → Tab T base s w → InvRef w → Inv T.V s rk ρ → T.V x →
    Calls Tryd.prog 49 #[.agg #[.slice (some ⟨T.S, 0, none⟩) T.nf T.nf], .agg #[.int .u32 (x.1 : Int), .int .u32 (x.2 : Int)]] w fun e w' => e = .returned (.agg #[.int .u32 ((ρ x).1 : Int), .int .u32 ((ρ x).2 : Int)]) ∧ Followed T base s rk ρ w w' := by
  intro k
  induction k with
  | zero =>
    intro s w x hk ht hi hv hx
    cases hl : s.link x with
    | none => exact follow_root T base s rk ρ w x ht hi hv hx hl
    | some y => have := (hv.step x y hx hl).2.1; omega
  | succ k ih =>
    intro s w x hk ht hi hv hx
    cases hl : s.link x with
    | none => exact follow_root T base s rk ρ w x ht hi hv hx hl
    | some y =>
      have hst := hv.step x y hx hl
      exact follow_step T base s rk ρ w x y ht hi hb3 hv hx hl (fun s2 w2 h1 h2 h3 => ih s2 w2 y (by omega) h1 h2 h3 hst.1)
end Go.Proofs.YtbkgbnejmgjiiaaDoor
