/- What MergeSymbols does to the table of symbols. Conditions: both symbols lie in the table, ranks are less than M, and the uses of both groups together fit 32 bits. -/
import Derived.Test.YtbkgbnejmgjiiaaDoorWMergeT
namespace Go.Proofs.YtbkgbnejmgjiiaaDoor
open Go.RowKit Go.Deep

/-- what a call of MergeSymbols ends in -/
def MergeEnd (T : Tbl) (base : Nat) (s : UF) (rk : Nat × Nat → Nat) (ρ : Nat × Nat → Nat × Nat) (M : Nat) (o n : Nat × Nat) (w : World) (e : Ending) (w' : World) : Prop :=
  ∃ r : Nat × Nat, e = .returned (.agg #[.int .u32 (r.1 : Int), .int .u32 (r.2 : Int)]) ∧ Merged T base s rk ρ M o n r w w'

/-- the four boxes that MergeSymbols lays -/
structure Boxes (T : Tbl) (o n : Nat × Nat) (N : Nat) (w w' : World) : Prop where
  bel : Below N w w'
  c0 : w'.cell? ⟨N, 0, none⟩ = some (.slice (some ⟨T.S, 0, none⟩) T.nf T.nf)
  a1 : At2 w' (N + 1) o.1 o.2
  a2 : At2 w' (N + 1 + 1) n.1 n.2
  a3 : At2 w' (N + 1 + 1 + 1) 0 0
theorem Boxes.mk' (T : Tbl) (o n : Nat × Nat) (w : World) : Boxes T o n w.heap.size w ((((w.alloc (.cells #[.slice (some ⟨T.S, 0, none⟩) T.nf T.nf] 94)).alloc (.cells #[.int .u32 (o.1 : Int), .int .u32 (o.2 : Int)] 100)).alloc (.cells #[.int .u32 (n.1 : Int), .int .u32 (n.2 : Int)] 100)).alloc (.cells #[.int .u32 0, .int .u32 0] 100)) := by
  refine ⟨((((Below.refl w.heap.size w).alloc (Nat.le_refl _) _).alloc (by simp) _).alloc (by simp; omega) _).alloc (by simp; omega) _, by go_simp, ?_, ?_, ?_⟩
  · have := ((At2.new (w.alloc (.cells #[.slice (some ⟨T.S, 0, none⟩) T.nf T.nf] 94)) o.1 o.2).alloc (.cells #[.int .u32 (n.1 : Int), .int .u32 (n.2 : Int)] 100)).alloc (.cells #[.int .u32 0, .int .u32 0] 100)
    rw [World.size_alloc] at this
    exact this
  · have := (At2.new ((w.alloc (.cells #[.slice (some ⟨T.S, 0, none⟩) T.nf T.nf] 94)).alloc (.cells #[.int .u32 (o.1 : Int), .int .u32 (o.2 : Int)] 100)) n.1 n.2).alloc (.cells #[.int .u32 0, .int .u32 0] 100)
    rw [World.size_alloc, World.size_alloc] at this
    exact this
  · have := At2.new (((w.alloc (.cells #[.slice (some ⟨T.S, 0, none⟩) T.nf T.nf] 94)).alloc (.cells #[.int .u32 (o.1 : Int), .int .u32 (o.2 : Int)] 100)).alloc (.cells #[.int .u32 (n.1 : Int), .int .u32 (n.2 : Int)] 100)) 0 0
    rw [World.size_alloc, World.size_alloc, World.size_alloc] at this
    exact this
theorem Boxes.kp {T : Tbl} {o n : Nat × Nat} {N : Nat} {w a b : World} (h : Boxes T o n N w a) (hk : Kp T a b) (hb : Below N a b) (hn : ∀ f, f < T.nf → T.B f < N) : Boxes T o n N w b :=
  ⟨h.bel.trans hb, (hk.cell (p := ⟨N, 0, none⟩) (cell_lt' h.c0) (fun f hf e => by have := hn f hf; simp only at e; omega)).trans h.c0, h.a1.kp hk (fun f hf e => by have := hn f hf; omega), h.a2.kp hk (fun f hf e => by have := hn f hf; omega), h.a3.kp hk (fun f hf e => by have := hn f hf; omega)⟩
theorem Boxes.drewN {T : Tbl} {o n : Nat × Nat} {N : Nat} {w a : World} (h : Boxes T o n N w a) (k : Nat) : Boxes T o n N w (a.drewN k) := ⟨below_drewN h.bel k, h.c0, h.a1, h.a2, h.a3⟩
theorem eq_pairs {o n : Nat × Nat} (h : o ≠ n) : (((o.1 : Int) == (n.1 : Int)) && ((o.2 : Int) == (n.2 : Int))) = false := by
  cases h1 : ((o.1 : Int) == (n.1 : Int)) && ((o.2 : Int) == (n.2 : Int)) with
  | false => rfl
  | true =>
    exfalso
    simp at h1
    exact h (Prod.ext (by omega) (by omega))


theorem Merged.pre {T : Tbl} {base : Nat} {s : UF} {rk : Nat × Nat → Nat} {ρ : Nat × Nat → Nat × Nat} {M : Nat} {o n r : Nat × Nat} {a w w' : World} (h : Merged T base s rk ρ M o n r w w') (hk : Kp T a w) : Merged T base s rk ρ M o n r a w' := { h with kp := hk.trans h.kp }
theorem Merged.drewN {T : Tbl} {base : Nat} {s : UF} {rk : Nat × Nat → Nat} {ρ : Nat × Nat → Nat × Nat} {M : Nat} {o n r : Nat × Nat} {w w' : World} (h : Merged T base s rk ρ M o n r w w') (k : Nat) : Merged T base s rk ρ M o n r w (w'.drewN k) :=
  ⟨h.vr, h.le, h.rho, h.kp.drewN k, fun e => by obtain ⟨h1, s', ht, hi, hu⟩ := h.same e; exact ⟨h1, s', ht.drewN k, hi, hu⟩, fun e => by obtain ⟨s', ht, hi, hu⟩ := h.other e; exact ⟨s', ht.drewN k, hi, hu⟩⟩
theorem Merged.setFar {T : Tbl} {base : Nat} {s : UF} {rk : Nat × Nat → Nat} {ρ : Nat × Nat → Nat × Nat} {M : Nat} {o n r : Nat × Nat} {w w' : World} (h : Merged T base s rk ρ M o n r w w') {p : Addr} (hp : w.heap.size ≤ p.block) (hS : p.block ≠ T.S) (hB : ∀ f, f < T.nf → p.block ≠ T.B f) (v : Value) : Merged T base s rk ρ M o n r w (w'.setCell p v) :=
  ⟨h.vr, h.le, h.rho, h.kp.setNew hp v, fun e => by obtain ⟨h1, s', ht, hi, hu⟩ := h.same e; exact ⟨h1, s', ht.setFar hS hB v, hi, hu⟩, fun e => by obtain ⟨s', ht, hi, hu⟩ := h.other e; exact ⟨s', ht.setFar hS hB v, hi, hu⟩⟩


theorem Merged.cellsAt {T : Tbl} {base : Nat} {s : UF} {rk : Nat × Nat → Nat} {ρ : Nat × Nat → Nat × Nat} {M : Nat} {o n r x : Nat × Nat} {w w' : World} (h : Merged T base s rk ρ M o n r w w') (hx : T.V x) : w'.cell? ⟨T.B x.1, x.2 * 10 + 2, none⟩ ≠ none ∧ w'.cell? ⟨T.B x.1, x.2 * 10 + 2 + 1, none⟩ ≠ none := by
  obtain ⟨s', ht⟩ := h.tab
  have h1 := ht.linkCells hx
  exact ⟨by rw [h1.1]; simp, by rw [show x.2 * 10 + 2 + 1 = x.2 * 10 + 3 from rfl, h1.2]; simp⟩
theorem two_cells {w : World} {b k : Nat} (h : w.cell? ⟨b, k, none⟩ ≠ none ∧ w.cell? ⟨b, k + 1, none⟩ ≠ none) (u v : Int) :
    ((w.setCell ⟨b, k, none⟩ (.int .u32 u)).setCell ⟨b, k + 1, none⟩ (.int .u32 v)).cell? ⟨b, k, none⟩ = some (.int .u32 u) ∧ ((w.setCell ⟨b, k, none⟩ (.int .u32 u)).setCell ⟨b, k + 1, none⟩ (.int .u32 v)).cell? ⟨b, k + 1, none⟩ = some (.int .u32 v) := by
  obtain ⟨c, hc⟩ := Option.ne_none_iff_exists'.1 h.1
  obtain ⟨d, hd⟩ := Option.ne_none_iff_exists'.1 h.2
  constructor <;> simp [go_sem, hc, hd]


theorem Inv.uses_any {V : Nat × Nat → Prop} {s : UF} {rk : Nat × Nat → Nat} {ρ : Nat × Nat → Nat × Nat} (h : Inv V s rk ρ) {x : Nat × Nat} {k : Nat} : Inv V (s.setUses x k) rk ρ := ⟨h.root, h.step⟩

set_option maxHeartbeats 1000000 in
set_option maxRecDepth 100000 in
theorem merge_same (T : Tbl) (base : Nat) (s : UF) (rk : Nat × Nat → Nat) (ρ : Nat × Nat → Nat × Nat) (M : Nat) (w : World) (n : Nat × Nat) (ht : Tab T base s w) (hv : Inv T.V s rk ρ) (hn : T.V n) :
    Calls Tryd.prog 50 #[.agg #[.slice (some ⟨T.S, 0, none⟩) T.nf T.nf], .agg #[.int .u32 (n.1 : Int), .int .u32 (n.2 : Int)], .agg #[.int .u32 (n.1 : Int), .int .u32 (n.2 : Int)]] w (MergeEnd T base s rk ρ M n n w) := by
  have HT := Lib.hid ht
  have HV := Lib.hid hv
  have HN := Lib.hid hn
  clear ht hv hn
  have hql := eql_ref
  go_enter Tryd.func50, Tryd.ntmps50
  go_wp2
  refine bodyPost_ret (v := .agg #[.int .u32 (n.1 : Int), .int .u32 (n.2 : Int)]) (by simp [results, Tryd.results50, go_sem]) rfl ?_
  have hb : Below w.heap.size w ((((w.alloc (.cells #[.slice (some ⟨T.S, 0, none⟩) T.nf T.nf] 94)).alloc (.cells #[.int .u32 (n.1 : Int), .int .u32 (n.2 : Int)] 100)).alloc (.cells #[.int .u32 (n.1 : Int), .int .u32 (n.2 : Int)] 100)).alloc (.cells #[.int .u32 (n.1 : Int), .int .u32 (n.2 : Int)] 100)) := ((((Below.refl w.heap.size w).alloc (Nat.le_refl _) _).alloc (by simp) _).alloc (by simp; omega) _).alloc (by simp; omega) _
  exact ⟨n, rfl, HN.out, Nat.le_refl _, rfl, Kp.of_below hb, fun _ => ⟨Nat.le_refl _, s, HT.out.sub hb, HV.out, rfl⟩, fun h => absurd rfl h⟩

/-- what stands in the middle of a link's turning to what the inner merge tells -/
structure IMB (T : Tbl) (base N : Nat) (s : UF) (rk : Nat × Nat → Nat) (ρ : Nat × Nat → Nat × Nat) (M : Nat) (o n l : Nat × Nat) (W : World) (b0 b1 b2 b3 b4 b5 b6 b7 b8 b9 b10 : Bool) (a : Act) (w : World) : Prop where
  pre : b7 = false → w = W
  p7 : b7 = true → b1 = true ∧ b5 = true ∧ b6 = true
  p10 : b10 = true → b7 = true
  post : b10 = true → ∃ r w2, Merged T base s rk ρ M l n r W w2 ∧ w = ((w2.setCell ⟨T.B o.1, o.2 * 10 + 2, none⟩ (.int .u32 (r.1 : Int))).setCell ⟨T.B o.1, o.2 * 10 + 2 + 1, none⟩ (.int .u32 (r.2 : Int)))
  fr : ∃ s22 s23 s24 s25 s26 s27 s28 s29 s30 s31, a = ⟨#[.agg #[.slice (some ⟨T.S, 0, none⟩) T.nf T.nf], .agg #[.int .u32 (o.1 : Int), .int .u32 (o.2 : Int)], .agg #[.int .u32 (n.1 : Int), .int .u32 (n.2 : Int)], .pointer (some ⟨N, 0, none⟩), .pointer (some ⟨N + 1, 0, none⟩), .pointer (some ⟨N + 1 + 1, 0, none⟩), .pointer (some ⟨N + 1 + 1 + 1, 0, none⟩), .pointer (some ⟨T.B o.1, o.2 * 10, none⟩), undef, .agg #[.int .u32 (o.1 : Int), .int .u32 (o.2 : Int)], .agg #[.int .u32 (n.1 : Int), .int .u32 (n.2 : Int)], .bool false, undef, .agg #[.slice (some ⟨T.S, 0, none⟩) T.nf T.nf], .agg #[.int .u32 (o.1 : Int), .int .u32 (o.2 : Int)], .pointer (some ⟨T.B o.1, o.2 * 10, none⟩), .pointer (some ⟨T.B o.1, o.2 * 10, none⟩), .pointer (some ⟨T.B o.1, o.2 * 10, none⟩), .pointer (some ⟨T.B o.1, o.2 * 10 + 2, none⟩), .agg #[.int .u32 (linkA s o), .int .u32 (linkB s o)], .agg #[.int .u32 4294967295, .int .u32 4294967295], .bool true, s22, s23, s24, s25, s26, s27, s28, s29, s30, s31, undef, undef, undef, undef, undef, undef, undef, undef, undef, undef, undef, undef, undef, undef, undef, undef, undef, undef, undef, undef, undef, undef, undef, undef, undef, undef, undef, undef, undef, undef, undef, undef, undef, undef, undef], []⟩ ∧
    (b7 = true → b10 = false → ∃ r : Nat × Nat, s29 = .agg #[.int .u32 (r.1 : Int), .int .u32 (r.2 : Int)] ∧ Merged T base s rk ρ M l n r W w) ∧
    (b0 = true → s22 = .pointer (some ⟨T.B o.1, o.2 * 10, none⟩)) ∧
    (b1 = true → s23 = .agg #[.slice (some ⟨T.S, 0, none⟩) T.nf T.nf]) ∧
    (b2 = true → s24 = .pointer (some ⟨T.B o.1, o.2 * 10, none⟩)) ∧
    (b3 = true → s25 = .pointer (some ⟨T.B o.1, o.2 * 10, none⟩)) ∧
    (b4 = true → s26 = .pointer (some ⟨T.B o.1, o.2 * 10 + 2, none⟩)) ∧
    (b5 = true → s27 = .agg #[.int .u32 (l.1 : Int), .int .u32 (l.2 : Int)]) ∧
    (b6 = true → s28 = .agg #[.int .u32 (n.1 : Int), .int .u32 (n.2 : Int)]) ∧
    (b8 = true → s30 = .pointer (some ⟨T.B o.1, o.2 * 10, none⟩)) ∧
    (b9 = true → s31 = .pointer (some ⟨T.B o.1, o.2 * 10 + 2, none⟩))

/-- the call of itself, met -/
def IMBIH (T : Tbl) (base : Nat) (s : UF) (rk : Nat × Nat → Nat) (ρ : Nat × Nat → Nat × Nat) (M : Nat) (o n : Nat × Nat) : Prop :=
  ∀ w : World, Tab T base s w → InvRef w → Calls Tryd.prog 50 #[.agg #[.slice (some ⟨T.S, 0, none⟩) T.nf T.nf], .agg #[.int .u32 (o.1 : Int), .int .u32 (o.2 : Int)], .agg #[.int .u32 (n.1 : Int), .int .u32 (n.2 : Int)]] w (MergeEnd T base s rk ρ M o n w)

set_option maxHeartbeats 4000000 in
set_option maxRecDepth 100000 in
theorem merge_old (T : Tbl) (base : Nat) (s : UF) (rk : Nat × Nat → Nat) (ρ : Nat × Nat → Nat × Nat) (M : Nat) (w : World) (o n l : Nat × Nat) (ht : Tab T base s w) (hi : InvRef w) (hv : Inv T.V s rk ρ) (hM : ∀ x, T.V x → rk x < M) (ho : T.V o) (hn : T.V n) (hne : o ≠ n) (hl : s.link o = some l) (ih : IMBIH T base s rk ρ M l n) :
    Calls Tryd.prog 50 #[.agg #[.slice (some ⟨T.S, 0, none⟩) T.nf T.nf], .agg #[.int .u32 (o.1 : Int), .int .u32 (o.2 : Int)], .agg #[.int .u32 (n.1 : Int), .int .u32 (n.2 : Int)]] w (MergeEnd T base s rk ρ M o n w) := by
  have HT := Lib.hid ht
  have HI := Lib.hid hi
  have HV := Lib.hid hv
  have HMM := Lib.hid hM
  have HO := Lib.hid ho
  have HN := Lib.hid hn
  have HLL := Lib.hid hl
  have HIH := Lib.hid ih
  have hnp := eq_pairs hne
  have hSlt := ht.outer.lt
  have HBLT := Lib.hid (fun f hf => (ht.inner f hf).lt)
  have HBX0 := Lib.hid (Boxes.mk' T o n w)
  have HS := Lib.hid (hv.step o l ho hl)
  clear ht hi hv hM ho hn hne hl ih
  have hql := eql_ref
  have hnq := neq_ref
  go_enter Tryd.func50, Tryd.ntmps50
  go_wp2_with fail
  generalize ((((w.alloc (.cells #[.slice (some ⟨T.S, 0, none⟩) T.nf T.nf] 94)).alloc (.cells #[.int .u32 (o.1 : Int), .int .u32 (o.2 : Int)] 100)).alloc (.cells #[.int .u32 (n.1 : Int), .int .u32 (n.2 : Int)] 100)).alloc (.cells #[.int .u32 0, .int .u32 0] 100)) = W at *
  refine (get_any T base s W o (HT.out.sub HBX0.out.bel) HO.out).mono ?_
  rintro e w1 ⟨rfl, hb1⟩
  have HT1 := Lib.hid ((HT.out.sub HBX0.out.bel).sub hb1)
  have HBX1 := Lib.hid (HBX0.out.kp (Kp.of_below hb1) (hb1.mono HBX0.out.bel.size) HBLT.out)
  clear hb1 HBX0
  have HI1 := Lib.hid (HI.out.below HBX1.out.bel HI.out.size3)
  have c20 := HI1.out.c20
  have c21 := HI1.out.c21
  have lk0 := (HT1.out.linkCells HO.out).1
  have lk1 : w1.cell? ⟨T.B o.1, o.2 * 10 + 2 + 1, none⟩ = some (.int .u32 (linkB s o)) := (HT1.out.linkCells HO.out).2
  have hlk := link_some HLL.out HT1.out HS.out.1
  go_wp2
  go_quiet (fail)
  clear c20 c21 lk0 lk1 hlk
  go_upto_region 5 with fail
  have HTD := Lib.hid (HT1.out.drewN nq)
  have HID := Lib.hid (show InvRef (w1.drewN nq) from ⟨HI1.out.size3, HI1.out.c20, HI1.out.c21⟩)
  have HBX := Lib.hid (HBX1.out.drewN nq)
  have HX := Lib.hid HO.out
  clear HT1 HI1 HBX1
  generalize w1.drewN nq = W1 at *
  have LK0 : Hid (W1.cell? ⟨T.B o.1, o.2 * 10 + 2, none⟩ = some (.int .u32 (l.1 : Int))) := (HTD.out.linkCells HO.out).1.trans (by rw [(linkA_some HLL.out).1])
  have LK1 : Hid (W1.cell? ⟨T.B o.1, o.2 * 10 + 2 + 1, none⟩ = some (.int .u32 (l.2 : Int))) := (HTD.out.linkCells HO.out).2.trans (by rw [(linkA_some HLL.out).2])
  go_cut [] (fun wx => Hid (∃ r w2, Merged T base s rk ρ M l n r W1 w2 ∧ wx = ((w2.setCell ⟨T.B o.1, o.2 * 10 + 2, none⟩ (.int .u32 (r.1 : Int))).setCell ⟨T.B o.1, o.2 * 10 + 2 + 1, none⟩ (.int .u32 (r.2 : Int)))))
  case first =>
    have hBlt := HBLT.out
    clear hql hnq
    refine wp_region_inv (by kernel_rfl) (by kernel_rfl) (fun L => IMB T base w.heap.size s rk ρ M o n l W1.drew (L 0) (L 1) (L 2) (L 3) (L 4) (L 5) (L 6) (L 7) (L 8) (L 9) (L 10)) ?cong ?start ?step ?fin
    case cong =>
      intro L L' a w h hI
      rw [h 0 (by decide), h 1 (by decide), h 2 (by decide), h 3 (by decide), h 4 (by decide), h 5 (by decide), h 6 (by decide), h 7 (by decide), h 8 (by decide), h 9 (by decide), h 10 (by decide)] at hI
      exact hI
    case start =>
      exact ⟨fun _ => rfl, fun h => (by cases h), fun h => (by cases h), fun h => (by cases h), undef, undef, undef, undef, undef, undef, undef, undef, undef, undef, rfl, fun h => (by cases h), fun h => (by cases h), fun h => (by cases h), fun h => (by cases h), fun h => (by cases h), fun h => (by cases h), fun h => (by cases h), fun h => (by cases h), fun h => (by cases h), fun h => (by cases h)⟩
    case step =>
      intro i op L a w' ho hL he hIn
      have hi : i < 11 := (Array.getElem?_eq_some_iff.1 ho).1
      have hcases : i = 0 ∨ i = 1 ∨ i = 2 ∨ i = 3 ∨ i = 4 ∨ i = 5 ∨ i = 6 ∨ i = 7 ∨ i = 8 ∨ i = 9 ∨ i = 10 := by omega
      clear hi
      rcases hcases with rfl | rfl | rfl | rfl | rfl | rfl | rfl | rfl | rfl | rfl | rfl
      · -- operation 0
        obtain rfl := Option.some.inj ho
        clear he
        obtain ⟨hpre, p7, p10, hpost, s22, s23, s24, s25, s26, s27, s28, s29, s30, s31, rfl, emid, e0, e1, e2, e3, e4, e5, e6, e8, e9⟩ := hIn
        have HPRE := Lib.hid hpre
        have HPOST := Lib.hid hpost
        have HMID := Lib.hid emid
        clear hpre hpost emid
        go_wp2
        exact ⟨HPRE.out, p7, p10, HPOST.out, .pointer (some ⟨T.B o.1, o.2 * 10, none⟩), s23, s24, s25, s26, s27, s28, s29, s30, s31, rfl, HMID.out, fun _ => rfl, e1, e2, e3, e4, e5, e6, e8, e9⟩
      · -- operation 1
        obtain rfl := Option.some.inj ho
        clear he
        obtain ⟨hpre, p7, p10, hpost, s22, s23, s24, s25, s26, s27, s28, s29, s30, s31, rfl, emid, e0, e1, e2, e3, e4, e5, e6, e8, e9⟩ := hIn
        have h7 : L 7 = false := by
          cases h : L 7 with
          | false => rfl
          | true => have h4 := (p7 h).1; rw [h4] at hL; cases hL
        obtain rfl := hpre h7
        have c0 := HBX.out.c0
        have HPRE := Lib.hid hpre
        have HPOST := Lib.hid hpost
        have HMID := Lib.hid emid
        clear hpre hpost emid
        go_wp2
        exact ⟨fun _ => rfl, fun h => ⟨rfl, (p7 h).2.1, (p7 h).2.2⟩, p10, HPOST.out, s22, .agg #[.slice (some ⟨T.S, 0, none⟩) T.nf T.nf], s24, s25, s26, s27, s28, s29, s30, s31, rfl, HMID.out, e0, fun _ => rfl, e2, e3, e4, e5, e6, e8, e9⟩
      · -- operation 2
        obtain rfl := Option.some.inj ho
        clear he
        obtain ⟨hpre, p7, p10, hpost, s22, s23, s24, s25, s26, s27, s28, s29, s30, s31, rfl, emid, e0, e1, e2, e3, e4, e5, e6, e8, e9⟩ := hIn
        have HPRE := Lib.hid hpre
        have HPOST := Lib.hid hpost
        have HMID := Lib.hid emid
        clear hpre hpost emid
        go_wp2
        exact ⟨HPRE.out, p7, p10, HPOST.out, s22, s23, .pointer (some ⟨T.B o.1, o.2 * 10, none⟩), s25, s26, s27, s28, s29, s30, s31, rfl, HMID.out, e0, e1, fun _ => rfl, e3, e4, e5, e6, e8, e9⟩
      · -- operation 3
        obtain rfl := Option.some.inj ho
        have l0 : L 2 = true := he ⟨2, .data⟩ (by simp) rfl
        clear he
        obtain ⟨hpre, p7, p10, hpost, s22, s23, s24, s25, s26, s27, s28, s29, s30, s31, rfl, emid, e0, e1, e2, e3, e4, e5, e6, e8, e9⟩ := hIn
        obtain rfl := e2 l0
        have HPRE := Lib.hid hpre
        have HPOST := Lib.hid hpost
        have HMID := Lib.hid emid
        clear hpre hpost emid
        go_wp2
        exact ⟨HPRE.out, p7, p10, HPOST.out, s22, s23, .pointer (some ⟨T.B o.1, o.2 * 10, none⟩), .pointer (some ⟨T.B o.1, o.2 * 10, none⟩), s26, s27, s28, s29, s30, s31, rfl, HMID.out, e0, e1, fun _ => rfl, fun _ => rfl, e4, e5, e6, e8, e9⟩
      · -- operation 4
        obtain rfl := Option.some.inj ho
        have l0 : L 3 = true := he ⟨3, .data⟩ (by simp) rfl
        clear he
        obtain ⟨hpre, p7, p10, hpost, s22, s23, s24, s25, s26, s27, s28, s29, s30, s31, rfl, emid, e0, e1, e2, e3, e4, e5, e6, e8, e9⟩ := hIn
        obtain rfl := e3 l0
        have HPRE := Lib.hid hpre
        have HPOST := Lib.hid hpost
        have HMID := Lib.hid emid
        clear hpre hpost emid
        go_wp2
        exact ⟨HPRE.out, p7, p10, HPOST.out, s22, s23, s24, .pointer (some ⟨T.B o.1, o.2 * 10, none⟩), .pointer (some ⟨T.B o.1, o.2 * 10 + 2, none⟩), s27, s28, s29, s30, s31, rfl, HMID.out, e0, e1, e2, fun _ => rfl, fun _ => rfl, e5, e6, e8, e9⟩
      · -- operation 5
        obtain rfl := Option.some.inj ho
        have l0 : L 4 = true := he ⟨4, .data⟩ (by simp) rfl
        clear he
        obtain ⟨hpre, p7, p10, hpost, s22, s23, s24, s25, s26, s27, s28, s29, s30, s31, rfl, emid, e0, e1, e2, e3, e4, e5, e6, e8, e9⟩ := hIn
        obtain rfl := e4 l0
        have h7 : L 7 = false := by
          cases h : L 7 with
          | false => rfl
          | true => have h4 := (p7 h).2.1; rw [h4] at hL; cases hL
        obtain rfl := hpre h7
        have c0 := LK0.out
        have c1 := LK1.out
        have HPRE := Lib.hid hpre
        have HPOST := Lib.hid hpost
        have HMID := Lib.hid emid
        clear hpre hpost emid
        go_wp2
        exact ⟨fun _ => rfl, fun h => ⟨(p7 h).1, rfl, (p7 h).2.2⟩, p10, HPOST.out, s22, s23, s24, s25, .pointer (some ⟨T.B o.1, o.2 * 10 + 2, none⟩), .agg #[.int .u32 (l.1 : Int), .int .u32 (l.2 : Int)], s28, s29, s30, s31, rfl, HMID.out, e0, e1, e2, e3, fun _ => rfl, fun _ => rfl, e6, e8, e9⟩
      · -- operation 6
        obtain rfl := Option.some.inj ho
        clear he
        obtain ⟨hpre, p7, p10, hpost, s22, s23, s24, s25, s26, s27, s28, s29, s30, s31, rfl, emid, e0, e1, e2, e3, e4, e5, e6, e8, e9⟩ := hIn
        have h7 : L 7 = false := by
          cases h : L 7 with
          | false => rfl
          | true => have h4 := (p7 h).2.2; rw [h4] at hL; cases hL
        obtain rfl := hpre h7
        have c0 := HBX.out.a2.c0
        have c1 := HBX.out.a2.c1
        have HPRE := Lib.hid hpre
        have HPOST := Lib.hid hpost
        have HMID := Lib.hid emid
        clear hpre hpost emid
        go_wp2
        exact ⟨fun _ => rfl, fun h => ⟨(p7 h).1, (p7 h).2.1, rfl⟩, p10, HPOST.out, s22, s23, s24, s25, s26, s27, .agg #[.int .u32 (n.1 : Int), .int .u32 (n.2 : Int)], s29, s30, s31, rfl, HMID.out, e0, e1, e2, e3, e4, e5, fun _ => rfl, e8, e9⟩
      · -- operation 7
        obtain rfl := Option.some.inj ho
        have l0 : L 1 = true := he ⟨1, .data⟩ (by simp) rfl
        have l1 : L 5 = true := he ⟨5, .data⟩ (by simp) rfl
        have l2 : L 6 = true := he ⟨6, .data⟩ (by simp) rfl
        clear he
        obtain ⟨hpre, p7, p10, hpost, s22, s23, s24, s25, s26, s27, s28, s29, s30, s31, rfl, emid, e0, e1, e2, e3, e4, e5, e6, e8, e9⟩ := hIn
        obtain rfl := e1 l0
        obtain rfl := e5 l1
        obtain rfl := e6 l2
        have h10 : L 10 = false := by
          cases h : L 10 with
          | false => rfl
          | true => have h4 := p10 h; rw [h4] at hL; cases hL
        obtain rfl := hpre hL
        clear hpre hpost emid
        go_wp2_with fail
        refine (HIH.out _ (HTD.out.drewN 1) ⟨HID.out.size3, HID.out.c20, HID.out.c21⟩).mono ?_
        rintro e w2 ⟨r, rfl, hm⟩
        have HM2 := Lib.hid hm
        clear hm
        go_wp2
        exact ⟨fun h => (by cases h), fun _ => ⟨l0, l1, l2⟩, fun _ => rfl, fun h => (by have h' : L 10 = true := h; rw [h10] at h'; cases h'), s22, .agg #[.slice (some ⟨T.S, 0, none⟩) T.nf T.nf], s24, s25, s26, .agg #[.int .u32 (l.1 : Int), .int .u32 (l.2 : Int)], .agg #[.int .u32 (n.1 : Int), .int .u32 (n.2 : Int)], .agg #[.int .u32 (r.1 : Int), .int .u32 (r.2 : Int)], s30, s31, rfl, fun _ _ => ⟨r, rfl, HM2.out⟩, e0, fun _ => rfl, e2, e3, e4, fun _ => rfl, fun _ => rfl, e8, e9⟩
      · -- operation 8
        obtain rfl := Option.some.inj ho
        have l0 : L 0 = true := he ⟨0, .data⟩ (by simp) rfl
        clear he
        obtain ⟨hpre, p7, p10, hpost, s22, s23, s24, s25, s26, s27, s28, s29, s30, s31, rfl, emid, e0, e1, e2, e3, e4, e5, e6, e8, e9⟩ := hIn
        obtain rfl := e0 l0
        have HPRE := Lib.hid hpre
        have HPOST := Lib.hid hpost
        have HMID := Lib.hid emid
        clear hpre hpost emid
        go_wp2
        exact ⟨HPRE.out, p7, p10, HPOST.out, .pointer (some ⟨T.B o.1, o.2 * 10, none⟩), s23, s24, s25, s26, s27, s28, s29, .pointer (some ⟨T.B o.1, o.2 * 10, none⟩), s31, rfl, HMID.out, fun _ => rfl, e1, e2, e3, e4, e5, e6, fun _ => rfl, e9⟩
      · -- operation 9
        obtain rfl := Option.some.inj ho
        have l0 : L 8 = true := he ⟨8, .data⟩ (by simp) rfl
        clear he
        obtain ⟨hpre, p7, p10, hpost, s22, s23, s24, s25, s26, s27, s28, s29, s30, s31, rfl, emid, e0, e1, e2, e3, e4, e5, e6, e8, e9⟩ := hIn
        obtain rfl := e8 l0
        have HPRE := Lib.hid hpre
        have HPOST := Lib.hid hpost
        have HMID := Lib.hid emid
        clear hpre hpost emid
        go_wp2
        exact ⟨HPRE.out, p7, p10, HPOST.out, s22, s23, s24, s25, s26, s27, s28, s29, .pointer (some ⟨T.B o.1, o.2 * 10, none⟩), .pointer (some ⟨T.B o.1, o.2 * 10 + 2, none⟩), rfl, HMID.out, e0, e1, e2, e3, e4, e5, e6, fun _ => rfl, fun _ => rfl⟩
      · -- operation 10
        obtain rfl := Option.some.inj ho
        have l0 : L 9 = true := he ⟨9, .data⟩ (by simp) rfl
        have l1 : L 7 = true := he ⟨7, .data⟩ (by simp) rfl
        clear he
        obtain ⟨hpre, p7, p10, hpost, s22, s23, s24, s25, s26, s27, s28, s29, s30, s31, rfl, emid, e0, e1, e2, e3, e4, e5, e6, e8, e9⟩ := hIn
        obtain rfl := e9 l0
        obtain rfl := e1 (p7 l1).1
        obtain rfl := e5 (p7 l1).2.1
        obtain rfl := e6 (p7 l1).2.2
        obtain ⟨r, rfl, hm⟩ := emid l1 hL
        obtain ⟨s3, ht3⟩ := hm.tab
        have c0 := (ht3.linkCells HX.out).1
        have c1 : w'.cell? ⟨T.B o.1, o.2 * 10 + 2 + 1, none⟩ = some (.int .u32 (linkB s3 o)) := (ht3.linkCells HX.out).2
        have z0 := ht3.free HX.out (o.2 * 10 + 2)
        have z1 := ht3.free HX.out (o.2 * 10 + 2 + 1)
        have HM2 := Lib.hid hm
        clear hm hpre hpost ht3
        go_wp2
        exact ⟨fun h => (by have h' : L 7 = false := h; rw [l1] at h'; cases h'), p7, fun _ => l1, fun _ => ⟨r, w', HM2.out, rfl⟩, s22, .agg #[.slice (some ⟨T.S, 0, none⟩) T.nf T.nf], s24, s25, s26, .agg #[.int .u32 (l.1 : Int), .int .u32 (l.2 : Int)], .agg #[.int .u32 (n.1 : Int), .int .u32 (n.2 : Int)], .agg #[.int .u32 (r.1 : Int), .int .u32 (r.2 : Int)], s30, .pointer (some ⟨T.B o.1, o.2 * 10 + 2, none⟩), rfl, fun _ h => (by cases h), e0, fun _ => rfl, e2, e3, e4, fun _ => rfl, fun _ => rfl, e8, fun _ => rfl⟩
    case fin =>
      rintro a w' ⟨hpre, p7, p10, hpost, s22, s23, s24, s25, s26, s27, s28, s29, s30, s31, rfl, emid, e0, e1, e2, e3, e4, e5, e6, e8, e9⟩
      obtain ⟨r, w2, hm, rfl⟩ := hpost rfl
      dsimp only [Exit.then]
      have HM2 := Lib.hid (hm.pre ((Kp.refl T W1).drewN 1))
      clear hpre p7 p10 hpost hm emid
      go_wp2_with fail
      go_meet
      exact ⟨r, w2, HM2.out, rfl⟩
  case rest =>
    obtain ⟨r, w2, hm, rfl⟩ := hcut.out
    have HW := Lib.hid (hm.old HV.out HMM.out HO.out HLL.out)
    have hkp := HW.out.kp
    obtain ⟨s3, ht3⟩ := HW.out.tab
    have hBlt := HBLT.out
    have hN3 : ∀ f, f < T.nf → w.heap.size + 1 + 1 + 1 ≠ T.B f := fun f hf e => by have := hBlt f hf; omega
    have hA3 := HBX.out.a3.kp hkp hN3
    have HM2 := Lib.hid hm
    clear hm hcut hBlt hkp
    have q0 := hA3.c0
    have q1 := hA3.c1
    have f0 := hA3.free 0
    have f1 := hA3.free 1
    have hneX : w.heap.size + 1 + 1 + 1 ≠ T.B o.1 := hN3 _ HO.out.1
    obtain ⟨m0, m1⟩ := two_cells (HM2.out.cellsAt HO.out) (r.1 : Int) (r.2 : Int)
    have HN3 := Lib.hid hN3
    clear ht3 hA3 hN3
    generalize hWC : ((w2.setCell ⟨T.B o.1, o.2 * 10 + 2, none⟩ (.int .u32 (r.1 : Int))).setCell ⟨T.B o.1, o.2 * 10 + 2 + 1, none⟩ (.int .u32 (r.2 : Int))) = WC at *
    have HWC := Lib.hid hWC
    clear hWC
    go_wp2
    refine bodyPost_ret (v := .agg #[.int .u32 (r.1 : Int), .int .u32 (r.2 : Int)]) (by simp [results, Tryd.results50, go_sem, q0, q1]) rfl ⟨r, rfl, ?_⟩
    exact ((HW.out.pre (Kp.of_below HBX.out.bel)).setFar (p := ⟨w.heap.size + 1 + 1 + 1, 0, none⟩) (by show _ ≤ w.heap.size + 1 + 1 + 1; omega) (by show w.heap.size + 1 + 1 + 1 ≠ T.S; omega) (fun f hf => HN3.out f hf) _).setFar (p := ⟨w.heap.size + 1 + 1 + 1, 1, none⟩) (by show _ ≤ w.heap.size + 1 + 1 + 1; omega) (by show w.heap.size + 1 + 1 + 1 ≠ T.S; omega) (fun f hf => HN3.out f hf) _
/-- what stands in the middle of a link's turning to what the inner merge tells -/
structure IMC (T : Tbl) (base N : Nat) (s : UF) (rk : Nat × Nat → Nat) (ρ : Nat × Nat → Nat × Nat) (M : Nat) (o n l : Nat × Nat) (W : World) (b0 b1 b2 b3 b4 b5 b6 b7 b8 b9 b10 : Bool) (a : Act) (w : World) : Prop where
  pre : b7 = false → w = W
  p7 : b7 = true → b1 = true ∧ b2 = true ∧ b6 = true
  p10 : b10 = true → b7 = true
  post : b10 = true → ∃ r w2, Merged T base s rk ρ M o l r W w2 ∧ w = ((w2.setCell ⟨T.B n.1, n.2 * 10 + 2, none⟩ (.int .u32 (r.1 : Int))).setCell ⟨T.B n.1, n.2 * 10 + 2 + 1, none⟩ (.int .u32 (r.2 : Int)))
  fr : ∃ s45 s46 s47 s48 s49 s50 s51 s52 s53 s54, a = ⟨#[.agg #[.slice (some ⟨T.S, 0, none⟩) T.nf T.nf], .agg #[.int .u32 (o.1 : Int), .int .u32 (o.2 : Int)], .agg #[.int .u32 (n.1 : Int), .int .u32 (n.2 : Int)], .pointer (some ⟨N, 0, none⟩), .pointer (some ⟨N + 1, 0, none⟩), .pointer (some ⟨N + 1 + 1, 0, none⟩), .pointer (some ⟨N + 1 + 1 + 1, 0, none⟩), .pointer (some ⟨T.B o.1, o.2 * 10, none⟩), .pointer (some ⟨T.B n.1, n.2 * 10, none⟩), .agg #[.int .u32 (o.1 : Int), .int .u32 (o.2 : Int)], .agg #[.int .u32 (n.1 : Int), .int .u32 (n.2 : Int)], .bool false, undef, .agg #[.slice (some ⟨T.S, 0, none⟩) T.nf T.nf], .agg #[.int .u32 (o.1 : Int), .int .u32 (o.2 : Int)], .pointer (some ⟨T.B o.1, o.2 * 10, none⟩), .pointer (some ⟨T.B o.1, o.2 * 10, none⟩), .pointer (some ⟨T.B o.1, o.2 * 10, none⟩), .pointer (some ⟨T.B o.1, o.2 * 10 + 2, none⟩), .agg #[.int .u32 (linkA s o), .int .u32 (linkB s o)], .agg #[.int .u32 4294967295, .int .u32 4294967295], .bool false, undef, undef, undef, undef, undef, undef, undef, undef, undef, undef, undef, undef, undef, undef, .agg #[.slice (some ⟨T.S, 0, none⟩) T.nf T.nf], .agg #[.int .u32 (n.1 : Int), .int .u32 (n.2 : Int)], .pointer (some ⟨T.B n.1, n.2 * 10, none⟩), .pointer (some ⟨T.B n.1, n.2 * 10, none⟩), .pointer (some ⟨T.B n.1, n.2 * 10, none⟩), .pointer (some ⟨T.B n.1, n.2 * 10 + 2, none⟩), .agg #[.int .u32 (linkA s n), .int .u32 (linkB s n)], .agg #[.int .u32 4294967295, .int .u32 4294967295], .bool true, s45, s46, s47, s48, s49, s50, s51, s52, s53, s54, undef, undef, undef, undef, undef, undef, undef, undef, undef, undef, undef, undef], []⟩ ∧
    (b7 = true → b10 = false → ∃ r : Nat × Nat, s52 = .agg #[.int .u32 (r.1 : Int), .int .u32 (r.2 : Int)] ∧ Merged T base s rk ρ M o l r W w) ∧
    (b0 = true → s45 = .pointer (some ⟨T.B n.1, n.2 * 10, none⟩)) ∧
    (b1 = true → s46 = .agg #[.slice (some ⟨T.S, 0, none⟩) T.nf T.nf]) ∧
    (b2 = true → s47 = .agg #[.int .u32 (o.1 : Int), .int .u32 (o.2 : Int)]) ∧
    (b3 = true → s48 = .pointer (some ⟨T.B n.1, n.2 * 10, none⟩)) ∧
    (b4 = true → s49 = .pointer (some ⟨T.B n.1, n.2 * 10, none⟩)) ∧
    (b5 = true → s50 = .pointer (some ⟨T.B n.1, n.2 * 10 + 2, none⟩)) ∧
    (b6 = true → s51 = .agg #[.int .u32 (l.1 : Int), .int .u32 (l.2 : Int)]) ∧
    (b8 = true → s53 = .pointer (some ⟨T.B n.1, n.2 * 10, none⟩)) ∧
    (b9 = true → s54 = .pointer (some ⟨T.B n.1, n.2 * 10 + 2, none⟩))

set_option maxHeartbeats 4000000 in
set_option maxRecDepth 100000 in
theorem merge_new (T : Tbl) (base : Nat) (s : UF) (rk : Nat × Nat → Nat) (ρ : Nat × Nat → Nat × Nat) (M : Nat) (w : World) (o n l : Nat × Nat) (ht : Tab T base s w) (hi : InvRef w) (hv : Inv T.V s rk ρ) (ho : T.V o) (hn : T.V n) (hne : o ≠ n) (hlo : s.link o = none) (hl : s.link n = some l) (ih : IMBIH T base s rk ρ M o l) :
    Calls Tryd.prog 50 #[.agg #[.slice (some ⟨T.S, 0, none⟩) T.nf T.nf], .agg #[.int .u32 (o.1 : Int), .int .u32 (o.2 : Int)], .agg #[.int .u32 (n.1 : Int), .int .u32 (n.2 : Int)]] w (MergeEnd T base s rk ρ M o n w) := by
  have HT := Lib.hid ht
  have HI := Lib.hid hi
  have HV := Lib.hid hv
  have HO := Lib.hid ho
  have HN := Lib.hid hn
  have HLL := Lib.hid hl
  have HIH := Lib.hid ih
  have hnp := eq_pairs hne
  have hSlt := ht.outer.lt
  have HBLT := Lib.hid (fun f hf => (ht.inner f hf).lt)
  have HBX0 := Lib.hid (Boxes.mk' T o n w)
  have HS := Lib.hid (hv.step n l hn hl)
  have HLO := Lib.hid hlo
  clear ht hi hv ho hn hne hl hlo ih
  have hql := eql_ref
  have hnq := neq_ref
  go_enter Tryd.func50, Tryd.ntmps50
  go_wp2_with fail
  generalize ((((w.alloc (.cells #[.slice (some ⟨T.S, 0, none⟩) T.nf T.nf] 94)).alloc (.cells #[.int .u32 (o.1 : Int), .int .u32 (o.2 : Int)] 100)).alloc (.cells #[.int .u32 (n.1 : Int), .int .u32 (n.2 : Int)] 100)).alloc (.cells #[.int .u32 0, .int .u32 0] 100)) = W at *
  refine (get_any T base s W o (HT.out.sub HBX0.out.bel) HO.out).mono ?_
  rintro e w1 ⟨rfl, hb1⟩
  have HT1 := Lib.hid ((HT.out.sub HBX0.out.bel).sub hb1)
  have HBX1 := Lib.hid (HBX0.out.kp (Kp.of_below hb1) (hb1.mono HBX0.out.bel.size) HBLT.out)
  clear hb1 HBX0
  have HI1 := Lib.hid (HI.out.below HBX1.out.bel HI.out.size3)
  have c20 := HI1.out.c20
  have c21 := HI1.out.c21
  have lk0 := (HT1.out.linkCells HO.out).1
  have lk1 : w1.cell? ⟨T.B o.1, o.2 * 10 + 2 + 1, none⟩ = some (.int .u32 (linkB s o)) := (HT1.out.linkCells HO.out).2
  have hlk : ((linkA s o == 4294967295) && (linkB s o == 4294967295)) = true := by simp [linkA, linkB, HLO.out]
  go_wp2
  go_quiet (fail)
  clear c20 c21 lk0 lk1 hlk
  have HT2 := Lib.hid (HT1.out.drewN nq)
  have HBX2 := Lib.hid (HBX1.out.drewN nq)
  clear HT1 HBX1 HI1
  generalize w1.drewN nq = W2 at *
  have b0 := HBX2.out.c0
  have b1 := HBX2.out.a2.c0
  have b2 := HBX2.out.a2.c1
  go_wp2_with fail
  clear b0 b1 b2
  refine (get_any T base s W2 n HT2.out HN.out).mono ?_
  rintro e w3 ⟨rfl, hb3⟩
  have HT3 := Lib.hid (HT2.out.sub hb3)
  have HBX3 := Lib.hid (HBX2.out.kp (Kp.of_below hb3) (hb3.mono HBX2.out.bel.size) HBLT.out)
  clear hb3 HBX2 HT2
  have HI3 := Lib.hid (HI.out.below HBX3.out.bel HI.out.size3)
  have c20 := HI3.out.c20
  have c21 := HI3.out.c21
  have lk0 := (HT3.out.linkCells HN.out).1
  have lk1 : w3.cell? ⟨T.B n.1, n.2 * 10 + 2 + 1, none⟩ = some (.int .u32 (linkB s n)) := (HT3.out.linkCells HN.out).2
  have hlk := link_some HLL.out HT3.out HS.out.1
  go_wp2
  go_quiet (fail)
  clear c20 c21 lk0 lk1 hlk
  go_upto_region 9 with fail
  have HTD := Lib.hid (HT3.out.drewN nq)
  have HID := Lib.hid (show InvRef (w3.drewN nq) from ⟨HI3.out.size3, HI3.out.c20, HI3.out.c21⟩)
  have HBX := Lib.hid (HBX3.out.drewN nq)
  have HX := Lib.hid HN.out
  clear HT3 HI3 HBX3
  generalize w3.drewN nq = W1 at *
  have LK0 : Hid (W1.cell? ⟨T.B n.1, n.2 * 10 + 2, none⟩ = some (.int .u32 (l.1 : Int))) := (HTD.out.linkCells HN.out).1.trans (by rw [(linkA_some HLL.out).1])
  have LK1 : Hid (W1.cell? ⟨T.B n.1, n.2 * 10 + 2 + 1, none⟩ = some (.int .u32 (l.2 : Int))) := (HTD.out.linkCells HN.out).2.trans (by rw [(linkA_some HLL.out).2])
  go_cut [] (fun wx => Hid (∃ r w2, Merged T base s rk ρ M o l r W1 w2 ∧ wx = ((w2.setCell ⟨T.B n.1, n.2 * 10 + 2, none⟩ (.int .u32 (r.1 : Int))).setCell ⟨T.B n.1, n.2 * 10 + 2 + 1, none⟩ (.int .u32 (r.2 : Int)))))
  case first =>
    have hBlt := HBLT.out
    clear hql hnq
    refine wp_region_inv (by kernel_rfl) (by kernel_rfl) (fun L => IMC T base w.heap.size s rk ρ M o n l W1.drew (L 0) (L 1) (L 2) (L 3) (L 4) (L 5) (L 6) (L 7) (L 8) (L 9) (L 10)) ?cong ?start ?step ?fin
    case cong =>
      intro L L' a w h hI
      rw [h 0 (by decide), h 1 (by decide), h 2 (by decide), h 3 (by decide), h 4 (by decide), h 5 (by decide), h 6 (by decide), h 7 (by decide), h 8 (by decide), h 9 (by decide), h 10 (by decide)] at hI
      exact hI
    case start =>
      exact ⟨fun _ => rfl, fun h => (by cases h), fun h => (by cases h), fun h => (by cases h), undef, undef, undef, undef, undef, undef, undef, undef, undef, undef, rfl, fun h => (by cases h), fun h => (by cases h), fun h => (by cases h), fun h => (by cases h), fun h => (by cases h), fun h => (by cases h), fun h => (by cases h), fun h => (by cases h), fun h => (by cases h), fun h => (by cases h)⟩
    case step =>
      intro i op L a w' ho hL he hIn
      have hi : i < 11 := (Array.getElem?_eq_some_iff.1 ho).1
      have hcases : i = 0 ∨ i = 1 ∨ i = 2 ∨ i = 3 ∨ i = 4 ∨ i = 5 ∨ i = 6 ∨ i = 7 ∨ i = 8 ∨ i = 9 ∨ i = 10 := by omega
      clear hi
      rcases hcases with rfl | rfl | rfl | rfl | rfl | rfl | rfl | rfl | rfl | rfl | rfl
      · -- operation 0
        obtain rfl := Option.some.inj ho
        clear he
        obtain ⟨hpre, p7, p10, hpost, s45, s46, s47, s48, s49, s50, s51, s52, s53, s54, rfl, emid, e0, e1, e2, e3, e4, e5, e6, e8, e9⟩ := hIn
        have HPRE := Lib.hid hpre
        have HPOST := Lib.hid hpost
        have HMID := Lib.hid emid
        clear hpre hpost emid
        go_wp2
        exact ⟨HPRE.out, p7, p10, HPOST.out, .pointer (some ⟨T.B n.1, n.2 * 10, none⟩), s46, s47, s48, s49, s50, s51, s52, s53, s54, rfl, HMID.out, fun _ => rfl, e1, e2, e3, e4, e5, e6, e8, e9⟩
      · -- operation 1
        obtain rfl := Option.some.inj ho
        clear he
        obtain ⟨hpre, p7, p10, hpost, s45, s46, s47, s48, s49, s50, s51, s52, s53, s54, rfl, emid, e0, e1, e2, e3, e4, e5, e6, e8, e9⟩ := hIn
        have h7 : L 7 = false := by
          cases h : L 7 with
          | false => rfl
          | true => have h4 := (p7 h).1; rw [h4] at hL; cases hL
        obtain rfl := hpre h7
        have c0 := HBX.out.c0
        have HPRE := Lib.hid hpre
        have HPOST := Lib.hid hpost
        have HMID := Lib.hid emid
        clear hpre hpost emid
        go_wp2
        exact ⟨fun _ => rfl, fun h => ⟨rfl, (p7 h).2.1, (p7 h).2.2⟩, p10, HPOST.out, s45, .agg #[.slice (some ⟨T.S, 0, none⟩) T.nf T.nf], s47, s48, s49, s50, s51, s52, s53, s54, rfl, HMID.out, e0, fun _ => rfl, e2, e3, e4, e5, e6, e8, e9⟩
      · -- operation 2
        obtain rfl := Option.some.inj ho
        clear he
        obtain ⟨hpre, p7, p10, hpost, s45, s46, s47, s48, s49, s50, s51, s52, s53, s54, rfl, emid, e0, e1, e2, e3, e4, e5, e6, e8, e9⟩ := hIn
        have h7 : L 7 = false := by
          cases h : L 7 with
          | false => rfl
          | true => have h4 := (p7 h).2.1; rw [h4] at hL; cases hL
        obtain rfl := hpre h7
        have c0 := HBX.out.a1.c0
        have c1 := HBX.out.a1.c1
        have HPRE := Lib.hid hpre
        have HPOST := Lib.hid hpost
        have HMID := Lib.hid emid
        clear hpre hpost emid
        go_wp2
        exact ⟨fun _ => rfl, fun h => ⟨(p7 h).1, rfl, (p7 h).2.2⟩, p10, HPOST.out, s45, s46, .agg #[.int .u32 (o.1 : Int), .int .u32 (o.2 : Int)], s48, s49, s50, s51, s52, s53, s54, rfl, HMID.out, e0, e1, fun _ => rfl, e3, e4, e5, e6, e8, e9⟩
      · -- operation 3
        obtain rfl := Option.some.inj ho
        clear he
        obtain ⟨hpre, p7, p10, hpost, s45, s46, s47, s48, s49, s50, s51, s52, s53, s54, rfl, emid, e0, e1, e2, e3, e4, e5, e6, e8, e9⟩ := hIn
        have HPRE := Lib.hid hpre
        have HPOST := Lib.hid hpost
        have HMID := Lib.hid emid
        clear hpre hpost emid
        go_wp2
        exact ⟨HPRE.out, p7, p10, HPOST.out, s45, s46, s47, .pointer (some ⟨T.B n.1, n.2 * 10, none⟩), s49, s50, s51, s52, s53, s54, rfl, HMID.out, e0, e1, e2, fun _ => rfl, e4, e5, e6, e8, e9⟩
      · -- operation 4
        obtain rfl := Option.some.inj ho
        have l0 : L 3 = true := he ⟨3, .data⟩ (by simp) rfl
        clear he
        obtain ⟨hpre, p7, p10, hpost, s45, s46, s47, s48, s49, s50, s51, s52, s53, s54, rfl, emid, e0, e1, e2, e3, e4, e5, e6, e8, e9⟩ := hIn
        obtain rfl := e3 l0
        have HPRE := Lib.hid hpre
        have HPOST := Lib.hid hpost
        have HMID := Lib.hid emid
        clear hpre hpost emid
        go_wp2
        exact ⟨HPRE.out, p7, p10, HPOST.out, s45, s46, s47, .pointer (some ⟨T.B n.1, n.2 * 10, none⟩), .pointer (some ⟨T.B n.1, n.2 * 10, none⟩), s50, s51, s52, s53, s54, rfl, HMID.out, e0, e1, e2, fun _ => rfl, fun _ => rfl, e5, e6, e8, e9⟩
      · -- operation 5
        obtain rfl := Option.some.inj ho
        have l0 : L 4 = true := he ⟨4, .data⟩ (by simp) rfl
        clear he
        obtain ⟨hpre, p7, p10, hpost, s45, s46, s47, s48, s49, s50, s51, s52, s53, s54, rfl, emid, e0, e1, e2, e3, e4, e5, e6, e8, e9⟩ := hIn
        obtain rfl := e4 l0
        have HPRE := Lib.hid hpre
        have HPOST := Lib.hid hpost
        have HMID := Lib.hid emid
        clear hpre hpost emid
        go_wp2
        exact ⟨HPRE.out, p7, p10, HPOST.out, s45, s46, s47, s48, .pointer (some ⟨T.B n.1, n.2 * 10, none⟩), .pointer (some ⟨T.B n.1, n.2 * 10 + 2, none⟩), s51, s52, s53, s54, rfl, HMID.out, e0, e1, e2, e3, fun _ => rfl, fun _ => rfl, e6, e8, e9⟩
      · -- operation 6
        obtain rfl := Option.some.inj ho
        have l0 : L 5 = true := he ⟨5, .data⟩ (by simp) rfl
        clear he
        obtain ⟨hpre, p7, p10, hpost, s45, s46, s47, s48, s49, s50, s51, s52, s53, s54, rfl, emid, e0, e1, e2, e3, e4, e5, e6, e8, e9⟩ := hIn
        obtain rfl := e5 l0
        have h7 : L 7 = false := by
          cases h : L 7 with
          | false => rfl
          | true => have h4 := (p7 h).2.2; rw [h4] at hL; cases hL
        obtain rfl := hpre h7
        have c0 := LK0.out
        have c1 := LK1.out
        have HPRE := Lib.hid hpre
        have HPOST := Lib.hid hpost
        have HMID := Lib.hid emid
        clear hpre hpost emid
        go_wp2
        exact ⟨fun _ => rfl, fun h => ⟨(p7 h).1, (p7 h).2.1, rfl⟩, p10, HPOST.out, s45, s46, s47, s48, s49, .pointer (some ⟨T.B n.1, n.2 * 10 + 2, none⟩), .agg #[.int .u32 (l.1 : Int), .int .u32 (l.2 : Int)], s52, s53, s54, rfl, HMID.out, e0, e1, e2, e3, e4, fun _ => rfl, fun _ => rfl, e8, e9⟩
      · -- operation 7
        obtain rfl := Option.some.inj ho
        have l0 : L 1 = true := he ⟨1, .data⟩ (by simp) rfl
        have l1 : L 2 = true := he ⟨2, .data⟩ (by simp) rfl
        have l2 : L 6 = true := he ⟨6, .data⟩ (by simp) rfl
        clear he
        obtain ⟨hpre, p7, p10, hpost, s45, s46, s47, s48, s49, s50, s51, s52, s53, s54, rfl, emid, e0, e1, e2, e3, e4, e5, e6, e8, e9⟩ := hIn
        obtain rfl := e1 l0
        obtain rfl := e2 l1
        obtain rfl := e6 l2
        have h10 : L 10 = false := by
          cases h : L 10 with
          | false => rfl
          | true => have h4 := p10 h; rw [h4] at hL; cases hL
        obtain rfl := hpre hL
        clear hpre hpost emid
        go_wp2_with fail
        refine (HIH.out _ (HTD.out.drewN 1) ⟨HID.out.size3, HID.out.c20, HID.out.c21⟩).mono ?_
        rintro e w2 ⟨r, rfl, hm⟩
        have HM2 := Lib.hid hm
        clear hm
        go_wp2
        exact ⟨fun h => (by cases h), fun _ => ⟨l0, l1, l2⟩, fun _ => rfl, fun h => (by have h' : L 10 = true := h; rw [h10] at h'; cases h'), s45, .agg #[.slice (some ⟨T.S, 0, none⟩) T.nf T.nf], .agg #[.int .u32 (o.1 : Int), .int .u32 (o.2 : Int)], s48, s49, s50, .agg #[.int .u32 (l.1 : Int), .int .u32 (l.2 : Int)], .agg #[.int .u32 (r.1 : Int), .int .u32 (r.2 : Int)], s53, s54, rfl, fun _ _ => ⟨r, rfl, HM2.out⟩, e0, fun _ => rfl, fun _ => rfl, e3, e4, e5, fun _ => rfl, e8, e9⟩
      · -- operation 8
        obtain rfl := Option.some.inj ho
        have l0 : L 0 = true := he ⟨0, .data⟩ (by simp) rfl
        clear he
        obtain ⟨hpre, p7, p10, hpost, s45, s46, s47, s48, s49, s50, s51, s52, s53, s54, rfl, emid, e0, e1, e2, e3, e4, e5, e6, e8, e9⟩ := hIn
        obtain rfl := e0 l0
        have HPRE := Lib.hid hpre
        have HPOST := Lib.hid hpost
        have HMID := Lib.hid emid
        clear hpre hpost emid
        go_wp2
        exact ⟨HPRE.out, p7, p10, HPOST.out, .pointer (some ⟨T.B n.1, n.2 * 10, none⟩), s46, s47, s48, s49, s50, s51, s52, .pointer (some ⟨T.B n.1, n.2 * 10, none⟩), s54, rfl, HMID.out, fun _ => rfl, e1, e2, e3, e4, e5, e6, fun _ => rfl, e9⟩
      · -- operation 9
        obtain rfl := Option.some.inj ho
        have l0 : L 8 = true := he ⟨8, .data⟩ (by simp) rfl
        clear he
        obtain ⟨hpre, p7, p10, hpost, s45, s46, s47, s48, s49, s50, s51, s52, s53, s54, rfl, emid, e0, e1, e2, e3, e4, e5, e6, e8, e9⟩ := hIn
        obtain rfl := e8 l0
        have HPRE := Lib.hid hpre
        have HPOST := Lib.hid hpost
        have HMID := Lib.hid emid
        clear hpre hpost emid
        go_wp2
        exact ⟨HPRE.out, p7, p10, HPOST.out, s45, s46, s47, s48, s49, s50, s51, s52, .pointer (some ⟨T.B n.1, n.2 * 10, none⟩), .pointer (some ⟨T.B n.1, n.2 * 10 + 2, none⟩), rfl, HMID.out, e0, e1, e2, e3, e4, e5, e6, fun _ => rfl, fun _ => rfl⟩
      · -- operation 10
        obtain rfl := Option.some.inj ho
        have l0 : L 9 = true := he ⟨9, .data⟩ (by simp) rfl
        have l1 : L 7 = true := he ⟨7, .data⟩ (by simp) rfl
        clear he
        obtain ⟨hpre, p7, p10, hpost, s45, s46, s47, s48, s49, s50, s51, s52, s53, s54, rfl, emid, e0, e1, e2, e3, e4, e5, e6, e8, e9⟩ := hIn
        obtain rfl := e9 l0
        obtain rfl := e1 (p7 l1).1
        obtain rfl := e2 (p7 l1).2.1
        obtain rfl := e6 (p7 l1).2.2
        obtain ⟨r, rfl, hm⟩ := emid l1 hL
        obtain ⟨s3, ht3⟩ := hm.tab
        have c0 := (ht3.linkCells HX.out).1
        have c1 : w'.cell? ⟨T.B n.1, n.2 * 10 + 2 + 1, none⟩ = some (.int .u32 (linkB s3 n)) := (ht3.linkCells HX.out).2
        have z0 := ht3.free HX.out (n.2 * 10 + 2)
        have z1 := ht3.free HX.out (n.2 * 10 + 2 + 1)
        have HM2 := Lib.hid hm
        clear hm hpre hpost ht3
        go_wp2
        exact ⟨fun h => (by have h' : L 7 = false := h; rw [l1] at h'; cases h'), p7, fun _ => l1, fun _ => ⟨r, w', HM2.out, rfl⟩, s45, .agg #[.slice (some ⟨T.S, 0, none⟩) T.nf T.nf], .agg #[.int .u32 (o.1 : Int), .int .u32 (o.2 : Int)], s48, s49, s50, .agg #[.int .u32 (l.1 : Int), .int .u32 (l.2 : Int)], .agg #[.int .u32 (r.1 : Int), .int .u32 (r.2 : Int)], s53, .pointer (some ⟨T.B n.1, n.2 * 10 + 2, none⟩), rfl, fun _ h => (by cases h), e0, fun _ => rfl, fun _ => rfl, e3, e4, e5, fun _ => rfl, e8, fun _ => rfl⟩
    case fin =>
      rintro a w' ⟨hpre, p7, p10, hpost, s45, s46, s47, s48, s49, s50, s51, s52, s53, s54, rfl, emid, e0, e1, e2, e3, e4, e5, e6, e8, e9⟩
      obtain ⟨r, w2, hm, rfl⟩ := hpost rfl
      dsimp only [Exit.then]
      have HM2 := Lib.hid (hm.pre ((Kp.refl T W1).drewN 1))
      clear hpre p7 p10 hpost hm emid
      go_wp2_with fail
      go_meet
      exact ⟨r, w2, HM2.out, rfl⟩
  case rest =>
    obtain ⟨r, w2, hm, rfl⟩ := hcut.out
    have HW := Lib.hid (hm.new HV.out HN.out HLL.out)
    have hkp := HW.out.kp
    obtain ⟨s3, ht3⟩ := HW.out.tab
    have hBlt := HBLT.out
    have hN3 : ∀ f, f < T.nf → w.heap.size + 1 + 1 + 1 ≠ T.B f := fun f hf e => by have := hBlt f hf; omega
    have hA3 := HBX.out.a3.kp hkp hN3
    have HM2 := Lib.hid hm
    clear hm hcut hBlt hkp
    have q0 := hA3.c0
    have q1 := hA3.c1
    have f0 := hA3.free 0
    have f1 := hA3.free 1
    have hneX : w.heap.size + 1 + 1 + 1 ≠ T.B n.1 := hN3 _ HN.out.1
    obtain ⟨m0, m1⟩ := two_cells (HM2.out.cellsAt HN.out) (r.1 : Int) (r.2 : Int)
    have HN3 := Lib.hid hN3
    clear ht3 hA3 hN3
    generalize hWC : ((w2.setCell ⟨T.B n.1, n.2 * 10 + 2, none⟩ (.int .u32 (r.1 : Int))).setCell ⟨T.B n.1, n.2 * 10 + 2 + 1, none⟩ (.int .u32 (r.2 : Int))) = WC at *
    have HWC := Lib.hid hWC
    clear hWC
    go_wp2
    refine bodyPost_ret (v := .agg #[.int .u32 (r.1 : Int), .int .u32 (r.2 : Int)]) (by simp [results, Tryd.results50, go_sem, q0, q1]) rfl ⟨r, rfl, ?_⟩
    exact ((HW.out.pre (Kp.of_below HBX.out.bel)).setFar (p := ⟨w.heap.size + 1 + 1 + 1, 0, none⟩) (by show _ ≤ w.heap.size + 1 + 1 + 1; omega) (by show w.heap.size + 1 + 1 + 1 ≠ T.S; omega) (fun f hf => HN3.out f hf) _).setFar (p := ⟨w.heap.size + 1 + 1 + 1, 1, none⟩) (by show _ ≤ w.heap.size + 1 + 1 + 1; omega) (by show w.heap.size + 1 + 1 + 1 ≠ T.S; omega) (fun f hf => HN3.out f hf) _
set_option maxHeartbeats 4000000 in
set_option maxRecDepth 100000 in
theorem merge_join (T : Tbl) (base : Nat) (s : UF) (rk : Nat × Nat → Nat) (ρ : Nat × Nat → Nat × Nat) (M : Nat) (w : World) (o n : Nat × Nat) (ht : Tab T base s w) (hi : InvRef w) (hv : Inv T.V s rk ρ) (hM : ∀ x, T.V x → rk x < M) (ho : T.V o) (hn : T.V n) (hne : o ≠ n) (hlo : s.link o = none) (hln : s.link n = none) (hu : s.uses n + s.uses o ≤ 4294967295) :
    Calls Tryd.prog 50 #[.agg #[.slice (some ⟨T.S, 0, none⟩) T.nf T.nf], .agg #[.int .u32 (o.1 : Int), .int .u32 (o.2 : Int)], .agg #[.int .u32 (n.1 : Int), .int .u32 (n.2 : Int)]] w (MergeEnd T base s rk ρ M o n w) := by
  have HT := Lib.hid ht
  have HI := Lib.hid hi
  have HV := Lib.hid hv
  have HMM := Lib.hid hM
  have HO := Lib.hid ho
  have HN := Lib.hid hn
  have HNE := Lib.hid hne
  have HLO := Lib.hid hlo
  have HLN := Lib.hid hln
  have HU := Lib.hid hu
  have hnp := eq_pairs hne
  have hSlt := ht.outer.lt
  have HBLT := Lib.hid (fun f hf => (ht.inner f hf).lt)
  have HBX0 := Lib.hid (Boxes.mk' T o n w)
  clear ht hi hv hM ho hn hne hlo hln hu
  have hql := eql_ref
  have hnq := neq_ref
  go_enter Tryd.func50, Tryd.ntmps50
  go_wp2_with fail
  generalize ((((w.alloc (.cells #[.slice (some ⟨T.S, 0, none⟩) T.nf T.nf] 94)).alloc (.cells #[.int .u32 (o.1 : Int), .int .u32 (o.2 : Int)] 100)).alloc (.cells #[.int .u32 (n.1 : Int), .int .u32 (n.2 : Int)] 100)).alloc (.cells #[.int .u32 0, .int .u32 0] 100)) = W at *
  refine (get_any T base s W o (HT.out.sub HBX0.out.bel) HO.out).mono ?_
  rintro e w1 ⟨rfl, hb1⟩
  have HT1 := Lib.hid ((HT.out.sub HBX0.out.bel).sub hb1)
  have HBX1 := Lib.hid (HBX0.out.kp (Kp.of_below hb1) (hb1.mono HBX0.out.bel.size) HBLT.out)
  clear hb1 HBX0
  have HI1 := Lib.hid (HI.out.below HBX1.out.bel HI.out.size3)
  have c20 := HI1.out.c20
  have c21 := HI1.out.c21
  have lk0 := (HT1.out.linkCells HO.out).1
  have lk1 : w1.cell? ⟨T.B o.1, o.2 * 10 + 2 + 1, none⟩ = some (.int .u32 (linkB s o)) := (HT1.out.linkCells HO.out).2
  have hlk : ((linkA s o == 4294967295) && (linkB s o == 4294967295)) = true := by simp [linkA, linkB, HLO.out]
  go_wp2
  go_quiet (fail)
  clear c20 c21 lk0 lk1 hlk
  have HT2 := Lib.hid (HT1.out.drewN nq)
  have HBX2 := Lib.hid (HBX1.out.drewN nq)
  clear HT1 HBX1 HI1
  generalize w1.drewN nq = W2 at *
  have b0 := HBX2.out.c0
  have b1 := HBX2.out.a2.c0
  have b2 := HBX2.out.a2.c1
  go_wp2_with fail
  clear b0 b1 b2
  refine (get_any T base s W2 n HT2.out HN.out).mono ?_
  rintro e w3 ⟨rfl, hb3⟩
  have HT3 := Lib.hid (HT2.out.sub hb3)
  have HBX3 := Lib.hid (HBX2.out.kp (Kp.of_below hb3) (hb3.mono HBX2.out.bel.size) HBLT.out)
  clear hb3 HBX2 HT2
  have HI3 := Lib.hid (HI.out.below HBX3.out.bel HI.out.size3)
  have c20 := HI3.out.c20
  have c21 := HI3.out.c21
  have lk0 := (HT3.out.linkCells HN.out).1
  have lk1 : w3.cell? ⟨T.B n.1, n.2 * 10 + 2 + 1, none⟩ = some (.int .u32 (linkB s n)) := (HT3.out.linkCells HN.out).2
  have hlk : ((linkA s n == 4294967295) && (linkB s n == 4294967295)) = true := by simp [linkA, linkB, HLN.out]
  go_wp2
  go_quiet (fail)
  clear c20 c21 lk0 lk1 hlk
  have HTD := Lib.hid (HT3.out.drewN nq)
  have HBX := Lib.hid (HBX3.out.drewN nq)
  clear HT3 HI3 HBX3
  generalize w3.drewN nq = W1 at *
  have b1 := HBX.out.a2.c0
  have b2 := HBX.out.a2.c1
  have lk0 := (HTD.out.linkCells HO.out).1
  have lk1 : W1.cell? ⟨T.B o.1, o.2 * 10 + 2 + 1, none⟩ = some (.int .u32 (linkB s o)) := (HTD.out.linkCells HO.out).2
  have fl0 := HTD.out.free HO.out (o.2 * 10 + 2)
  have fl1 := HTD.out.free HO.out (o.2 * 10 + 2 + 1)
  go_wp2_with fail
  clear b1 b2 lk0 lk1 fl0 fl1
  refine (contents_any T base (s.setLink o n) _ n o (HTD.out.setLink HO.out n) HN.out HO.out HU.out).mono ?_
  rintro e w5 ⟨rfl, hT5, hK5⟩
  have HK : Hid (Kp T W1 w5) := (((Kp.refl T W1).setCell HO.out.1 _ _).setCell HO.out.1 _ _).trans hK5
  have HT5 := Lib.hid hT5
  clear hT5 hK5
  have hBlt := HBLT.out
  have hA2 := HBX.out.a2.kp HK.out (fun f hf e => by have := hBlt f hf; omega)
  have hA3 := HBX.out.a3.kp HK.out (fun f hf e => by have := hBlt f hf; omega)
  have hN3 : ∀ f, f < T.nf → w.heap.size + 1 + 1 + 1 ≠ T.B f := fun f hf e => by have := hBlt f hf; omega
  have HN3 := Lib.hid hN3
  clear hBlt hN3
  have b1 := hA2.c0
  have b2 := hA2.c1
  have q0 := hA3.c0
  have q1 := hA3.c1
  have f0 := hA3.free 0
  have f1 := hA3.free 1
  clear hA2 hA3
  go_wp2
  refine bodyPost_ret (v := .agg #[.int .u32 (n.1 : Int), .int .u32 (n.2 : Int)]) (by simp [results, Tryd.results50, go_sem, q0, q1]) rfl ⟨n, rfl, ?_⟩
  have hro := HV.out.root o HO.out HLO.out
  have hrn := HV.out.root n HN.out HLN.out
  have hm : Merged T base s rk ρ M o n n W1 w5 := ⟨HN.out, Nat.le_refl _, rfl, HK.out, fun e => absurd (by rw [hro, hrn] at e; exact e) HNE.out, fun _ => ⟨_, HT5.out, (HV.out.join HMM.out HO.out HN.out HLO.out HLN.out HNE.out).uses_any, by unfold usesUp; rw [hro, hrn]; rfl⟩⟩
  exact ((hm.pre (Kp.of_below HBX.out.bel)).setFar (p := ⟨w.heap.size + 1 + 1 + 1, 0, none⟩) (by show _ ≤ w.heap.size + 1 + 1 + 1; omega) (by show w.heap.size + 1 + 1 + 1 ≠ T.S; omega) (fun f hf => HN3.out f hf) _).setFar (p := ⟨w.heap.size + 1 + 1 + 1, 1, none⟩) (by show _ ≤ w.heap.size + 1 + 1 + 1; omega) (by show w.heap.size + 1 + 1 + 1 ≠ T.S; omega) (fun f hf => HN3.out f hf) _

/-- MergeSymbols -/
theorem merge_any (T : Tbl) (base : Nat) (s : UF) (rk : Nat × Nat → Nat) (ρ : Nat × Nat → Nat × Nat) (M : Nat) (hv : Inv T.V s rk ρ) (hM : ∀ x, T.V x → rk x < M) : ∀ (k : Nat) (o n : Nat × Nat), rk o + rk n ≤ k → T.V o → T.V n → (ρ o ≠ ρ n → s.uses (ρ n) + s.uses (ρ o) ≤ 4294967295) → IMBIH T base s rk ρ M o n := by
  intro k
  induction k with
  | zero =>
    intro o n hk ho hn hu w ht hi
    by_cases hne : o = n
    · subst hne; exact merge_same T base s rk ρ M w o ht hv ho
    cases hlo : s.link o with
    | some l => have := (hv.step o l ho hlo).2.1; omega
    | none =>
      cases hln : s.link n with
      | some l => have := (hv.step n l hn hln).2.1; omega
      | none =>
        have h1 := hv.root o ho hlo
        have h2 := hv.root n hn hln
        rw [h1, h2] at hu
        exact merge_join T base s rk ρ M w o n ht hi hv hM ho hn hne hlo hln (hu hne)
  | succ k ih =>
    intro o n hk ho hn hu w ht hi
    by_cases hne : o = n
    · subst hne; exact merge_same T base s rk ρ M w o ht hv ho
    cases hlo : s.link o with
    | some l =>
      obtain ⟨h1, h2, h3⟩ := hv.step o l ho hlo
      exact merge_old T base s rk ρ M w o n l ht hi hv hM ho hn hne hlo (ih l n (by omega) h1 hn (by rw [h3]; exact hu))
    | none =>
      cases hln : s.link n with
      | some l =>
        obtain ⟨h1, h2, h3⟩ := hv.step n l hn hln
        exact merge_new T base s rk ρ M w o n l ht hi hv ho hn hne hlo hln (ih o l (by omega) ho h1 (by rw [h3]; exact hu))
      | none =>
        have h1 := hv.root o ho hlo
        have h2 := hv.root n hn hln
        rw [h1, h2] at hu
        exact merge_join T base s rk ρ M w o n ht hi hv hM ho hn hne hlo hln (hu hne)
end Go.Proofs.YtbkgbnejmgjiiaaDoor
