/- The law FnGreatestOfBoth returns true, for all rows of four numbers, in every world in which the two minifiers lie as their initialisers lay them; what lay in memory stands. -/
import Derived.Test.YtbkgbnejmgjiiaaDoorLEvery
import Derived.RegionTactic
import Derived.Deep.RegionWith
import Derived.Deep.OwnRows
import Derived.Deep.Draws
import Derived.Deep.DeepCutAuto
import Derived.Lib.QuietBelow
import Derived.Test.YtbkgbnejmgjiiaaDoorWRegion
import Derived.Test.YtbkgbnejmgjiiaaDoorWEql
namespace Go.Proofs.YtbkgbnejmgjiiaaDoor
open Go.RowKit Go.Deep

theorem rowIs_drewN {w : World} {b : Nat} {t : TypeId} {n : Nat} {f : Nat → Value} (h : w.rowIs b t n f) (k : Nat) : (w.drewN k).rowIs b t n f := h
theorem only_drewN {a w : World} {row : Option Nat} (h : a.grownBy w row) (n : Nat) : a.grownBy (w.drewN n) row := ⟨h.os, h.tape, h.output, h.size, h.block⟩
theorem only_drew {a w : World} {row : Option Nat} (h : a.grownBy w row) : a.grownBy w.drew row := ⟨h.os, h.tape, h.output, h.size, h.block⟩
theorem only_alloc {a w : World} {row : Option Nat} (h : a.grownBy w row) (o : Obj) : a.grownBy (w.alloc o) row :=
  ⟨h.os, h.tape, h.output, Nat.le_trans h.size (by simp), fun i hi hne => (Below.heap_alloc w o i (Nat.lt_of_lt_of_le hi h.size)).trans (h.block i hi hne)⟩
theorem only_setCell {a w : World} {g : Nat} (h : a.grownBy w (some g)) {p : Addr} (hp : p.block = g ∨ a.heap.size ≤ p.block) (u : Value) : a.grownBy (w.setCell p u) (some g) :=
  ⟨h.os, h.tape, h.output, by simpa [World.setCell] using h.size, fun i hi hne => (Below.heap_setCell w p u i (by
    rintro rfl
    rcases hp with hp | hp
    · exact hne (by rw [hp])
    · omega)).trans (h.block i hi hne)⟩
theorem only_of_below {a w : World} (h : Below a.heap.size a w) (row : Option Nat) : a.grownBy w row := ⟨h.os, h.tape, h.output, h.size, fun i hi _ => h.block i hi⟩

/-- a row of four -/
def row4 (Y : Nat → Int) : Array Value := #[.int .u32 (Y 0), .int .u32 (Y 1), .int .u32 (Y 2), .int .u32 (Y 3)]
theorem row4_get (Y : Nat → Int) (i : Nat) (h : i < 4) : (row4 Y)[i]? = some (.int .u32 (Y i)) := by
  match i, h with
  | 0, _ => rfl
  | 1, _ => rfl
  | 2, _ => rfl
  | 3, _ => rfl
theorem row4_is (w : World) (T : TypeId) (Y : Nat → Int) : (w.alloc (.cells #[.int .u32 (Y 0), .int .u32 (Y 1), .int .u32 (Y 2), .int .u32 (Y 3)] T)).rowIs w.heap.size T 4 (fun i => .int .u32 (Y i)) :=
  World.rowIs_alloc w (row4 Y) T _ (fun i h => row4_get Y i h)

set_option maxHeartbeats 1000000 in
theorem unionMax_any (b : Nat) (X Y : Nat → Int) (w : World) (hb : w.rowIs b 77 4 (fun i => .int .u32 (X i))) :
    Calls Tryd.prog 39 #[.pointer (some ⟨b, 0, none⟩), .agg #[.int .u32 (Y 0), .int .u32 (Y 1), .int .u32 (Y 2), .int .u32 (Y 3)]] w fun e w' => e = .returned (.tuple #[]) ∧ w'.rowIs b 77 4 (fun i => .int .u32 (max (X i) (Y i))) ∧ w.grownBy w' (some b) := by
  have HB := Lib.hid hb
  have hlt := hb.lt
  clear hb
  go_enter Tryd.func39, Tryd.ntmps39
  go_wp2
  go_loopw [7] (fun v wr => ∃ k : Nat, k ≤ 4 ∧ v = .int .i64 k ∧ Hid (wr.rowIs b 77 4 (fun i => .int .u32 (if i < k then max (X i) (Y i) else X i))) ∧ Hid (wr.rowIs w.heap.size 77 4 (fun i => .int .u32 (Y i))) ∧ Hid (w.grownBy wr (some b))) (fun v _ => 4 - (intOf v).toNat)
  case atStart =>
    refine ⟨0, by omega, rfl, ?_, row4_is w 77 Y, only_alloc (World.grownBy.refl w _) _⟩
    exact (HB.out.alloc _).congr (fun i _ => by simp)
  case round =>
    obtain ⟨k, hk, rfl, HX, HY, HW⟩ := hrel
    have hsz := HW.out.size
    by_cases hlt4 : k < 4
    · have cx : wr.cell? ⟨b, k, none⟩ = some (.int .u32 (X k)) := by
        have := HX.out.cell hlt4
        simpa using this
      have cy : wr.cell? ⟨w.heap.size, k, none⟩ = some (.int .u32 (Y k)) := HY.out.cell hlt4
      have fx : wr.frozen? ⟨b, k, none⟩ = false := HX.out.frozen k
      by_cases hm : X k < Y k
      · go_wp2
        go_roundw
        case rel =>
          refine ⟨k + 1, by omega, by go_num, ?_, HY.out.setOther (by show w.heap.size ≠ b; omega) _, only_setCell HW.out (.inl rfl) _⟩
          refine (HX.out.set k _).congr (fun i hi => ?_)
          by_cases e : i = k
          · subst e; simp; omega
          · rw [if_neg e]
            by_cases h' : i < k
            · rw [if_pos h', if_pos (by omega)]
            · rw [if_neg h', if_neg (by omega)]
        case measure => simp [intOf]; omega
      · go_wp2
        go_roundw
        case rel =>
          refine ⟨k + 1, by omega, by go_num, ?_, HY.out, HW.out⟩
          refine HX.out.congr (fun i hi => ?_)
          by_cases e : i = k
          · subst e; simp; omega
          · by_cases h' : i < k
            · rw [if_pos h', if_pos (by omega)]
            · rw [if_neg h', if_neg (by omega)]
        case measure => simp [intOf]; omega
    · go_wp2
      go_end0
      refine ⟨rfl, ?_, HW.out⟩
      exact HX.out.congr (fun i hi => by rw [if_pos (by omega)])
theorem below_of_only {B g : Nat} {a w : World} (h : a.grownBy w (some g)) (hB : B ≤ a.heap.size) (hg : B ≤ g) : Below B a w :=
  ⟨h.os, h.tape, h.output, h.size, fun i hi => h.block i (by omega) (fun e => by injection e with e; omega)⟩

set_option maxHeartbeats 1000000 in
theorem greatest_any (X Y : Nat → Int) (w : World) :
    Calls Tryd.prog 20 #[.agg #[.int .u32 (X 0), .int .u32 (X 1), .int .u32 (X 2), .int .u32 (X 3)], .agg #[.int .u32 (Y 0), .int .u32 (Y 1), .int .u32 (Y 2), .int .u32 (Y 3)]] w fun e w' =>
      e = .returned (.agg #[.int .u32 (max (X 0) (Y 0)), .int .u32 (max (X 1) (Y 1)), .int .u32 (max (X 2) (Y 2)), .int .u32 (max (X 3) (Y 3))]) ∧ Below w.heap.size w w' := by
  have HR := fun w : World => Lib.hid (row4_is w 77 X)
  have HZ := fun w : World => Lib.hid (row4_is w 30 (fun _ => 0))
  go_enter Tryd.func20, Tryd.ntmps20
  go_wp2_with fail
  refine (unionMax_any _ X Y _ (by simpa using (HR (((w.alloc _).alloc _).alloc _)).out)).mono ?_
  rintro e w1 ⟨rfl, hr1, hg1⟩
  have hz : w1.rowIs (w.heap.size + 1 + 1) 30 4 (fun _ => .int .u32 0) := by
    refine World.rowIs.of_block (w := ((w.alloc _).alloc _).alloc _) ?_ ((hg1.block _ (by simp) (by simp)).trans (Below.heap_alloc _ _ _ (by simp)))
    simpa using (HZ ((w.alloc _).alloc _)).out
  have m0 := hr1.cell (i := 0) (by omega)
  have m1 := hr1.cell (i := 1) (by omega)
  have m2 := hr1.cell (i := 2) (by omega)
  have m3 := hr1.cell (i := 3) (by omega)
  have z0 := hz.cell (i := 0) (by omega)
  have z1 := hz.cell (i := 1) (by omega)
  have z2 := hz.cell (i := 2) (by omega)
  have z3 := hz.cell (i := 3) (by omega)
  have f0 := hz.frozen 0
  have f1 := hz.frozen 1
  have f2 := hz.frozen 2
  have f3 := hz.frozen 3
  have hlt := hz.lt
  have HG := Lib.hid (((((Below.refl w.heap.size w).alloc (Nat.le_refl _) _).alloc (by simp) _).alloc (by simp; omega) _ |>.alloc (by simp; omega) _).trans (below_of_only hg1 (by simp; omega) (by omega)))
  clear hr1 hg1 hz HR HZ
  go_wp2
  refine bodyPost_ret (v := .agg #[.int .u32 (max (X 0) (Y 0)), .int .u32 (max (X 1) (Y 1)), .int .u32 (max (X 2) (Y 2)), .int .u32 (max (X 3) (Y 3))]) (by simp [results, Tryd.results20, go_sem, z0, z1, z2, z3]) rfl ⟨rfl, ?_⟩
  exact (((HG.out.setCell (p := ⟨w.heap.size + 1 + 1, 0, none⟩) (by show _ ≤ w.heap.size + 1 + 1; omega) _).setCell (p := ⟨w.heap.size + 1 + 1, 1, none⟩) (by show _ ≤ w.heap.size + 1 + 1; omega) _).setCell (p := ⟨w.heap.size + 1 + 1, 2, none⟩) (by show _ ≤ w.heap.size + 1 + 1; omega) _).setCell (p := ⟨w.heap.size + 1 + 1, 3, none⟩) (by show _ ≤ w.heap.size + 1 + 1; omega) _
abbrev agg4 (X : Nat → Int) : Value := .agg #[.int .u32 (X 0), .int .u32 (X 1), .int .u32 (X 2), .int .u32 (X 3)]
theorem greatest_absorb (X Y : Nat → Int) (w : World) :
    Calls Tryd.prog 20 #[agg4 (fun i => max (X i) (Y i)), agg4 X] w fun e w' => e = .returned (agg4 (fun i => max (X i) (Y i))) ∧ Below w.heap.size w w' := by
  refine (greatest_any (fun i => max (X i) (Y i)) X w).mono ?_
  rintro e w' ⟨rfl, hb⟩
  have h : ∀ a b : Int, max (max a b) a = max a b := by intro a b; omega
  refine ⟨?_, hb⟩
  simp only [h]
/-- the four cells of a block of the call's own -/
def At4 (w : World) (g : Nat) (X : Nat → Int) : Prop := w.rowIs g 30 4 (fun i => .int .u32 (X i))
theorem At4.below {w w' : World} {g B : Nat} {X : Nat → Int} (h : At4 w g X) (hb : Below B w w') (hg : g < B) : At4 w' g X := h.of_block (hb.block g hg)

structure I5 (w0 : World) (X Y : Nat → Int) (b0 b1 b2 b3 b4 b5 b6 b7 b8 b9 : Bool) (a : Act) (w : World) : Prop where
  bx : At4 w w0.heap.size X
  by_ : At4 w (w0.heap.size + 1) Y
  bel : Below w0.heap.size w0 w
  fr : ∃ s5 s6 s8 s9 s10 s11 s12 s13, a = ⟨#[agg4 X, agg4 Y, .pointer (some ⟨w0.heap.size, 0, none⟩), .pointer (some ⟨w0.heap.size + 1, 0, none⟩), .bool false, s5, s6, undef, s8, s9, s10, s11, s12, s13, undef, undef, undef, undef, undef, undef, undef, undef, undef, undef, undef, undef, undef, undef, undef, undef, undef, undef, undef, undef, undef, undef, undef, undef, undef, undef, undef, undef], []⟩ ∧
    (b0 = true → s8 = agg4 X) ∧ (b1 = true → s9 = agg4 Y) ∧ (b2 = true → s10 = agg4 (fun i => max (X i) (Y i))) ∧ (b3 = true → s11 = agg4 Y) ∧ (b4 = true → s12 = agg4 X) ∧ (b5 = true → s13 = agg4 (fun i => max (Y i) (X i))) ∧
    (b6 = true → ∃ g, s5 = .pointer (some ⟨g, 0, none⟩) ∧ w0.heap.size + 1 < g ∧ At4 w g (fun i => if b8 then max (X i) (Y i) else 0)) ∧
    (b7 = true → ∃ g, s6 = .pointer (some ⟨g, 0, none⟩) ∧ w0.heap.size + 1 < g ∧ At4 w g (fun i => if b9 then max (Y i) (X i) else 0)) ∧
    (b6 = true → b7 = true → s5 ≠ s6) ∧ (b8 = true → b6 = true) ∧ (b9 = true → b7 = true)

set_option maxHeartbeats 1600000 in
set_option maxRecDepth 100000 in
theorem law_greatest (X Y : Nat → Int) (w0 : World) (hg : Glob w0) :
    Calls Tryd.prog 5 #[agg4 X, agg4 Y] w0 fun e w' => e = .returned (.bool true) ∧ Below w0.heap.size w0 w' := by
  go_enter Tryd.func5, Tryd.ntmps5
  go_upto_region 1 with fail
  go_cut [5, 6] (fun s5 s6 wx => ∃ g5 g6 : Nat, s5 = .pointer (some ⟨g5, 0, none⟩) ∧ s6 = .pointer (some ⟨g6, 0, none⟩) ∧ Hid (At4 wx g5 (fun i => max (X i) (Y i))) ∧ Hid (At4 wx g6 (fun i => max (Y i) (X i))) ∧ Hid (At4 wx w0.heap.size X) ∧ Hid (At4 wx (w0.heap.size + 1) Y) ∧ Hid (Below w0.heap.size w0 wx))
  case first =>
    refine wp_region_inv (by kernel_rfl) (by kernel_rfl) (fun L => I5 w0 X Y (L 0) (L 1) (L 2) (L 3) (L 4) (L 5) (L 6) (L 7) (L 8) (L 9)) ?cong ?start ?step ?fin
    case cong =>
      intro L L' a w h hI
      rw [h 0 (by decide), h 1 (by decide), h 2 (by decide), h 3 (by decide), h 4 (by decide), h 5 (by decide), h 6 (by decide), h 7 (by decide), h 8 (by decide), h 9 (by decide)] at hI
      exact hI
    case start =>
      refine ⟨?_, ?_, ?_, undef, undef, undef, undef, undef, undef, undef, undef, rfl, fun h => (by cases h), fun h => (by cases h), fun h => (by cases h), fun h => (by cases h), fun h => (by cases h), fun h => (by cases h), fun h => (by cases h), fun h => (by cases h), fun h => (by cases h), fun h => (by cases h), fun h => (by cases h)⟩
      · exact (row4_is w0 30 X).alloc _
      · have := row4_is (w0.alloc (.cells #[.int .u32 (X 0), .int .u32 (X 1), .int .u32 (X 2), .int .u32 (X 3)] 30)) 30 Y
        rw [World.size_alloc] at this
        exact this
      · exact (((Below.refl w0.heap.size w0).alloc (Nat.le_refl _) _).alloc (by simp) _).drew
    case step =>
      intro i o L a w ho hL he hI
      have hi : i < 10 := (Array.getElem?_eq_some_iff.1 ho).1
      have hcases : i = 0 ∨ i = 1 ∨ i = 2 ∨ i = 3 ∨ i = 4 ∨ i = 5 ∨ i = 6 ∨ i = 7 ∨ i = 8 ∨ i = 9 := by omega
      clear hi
      rcases hcases with rfl | rfl | rfl | rfl | rfl | rfl | rfl | rfl | rfl | rfl
      · -- operation 0
        obtain rfl := Option.some.inj ho
        obtain ⟨bx, by_, bel, s5, s6, s8, s9, s10, s11, s12, s13, rfl, e0, e1, e2, e3, e4, e5, e6, e7, e67, e8, e9⟩ := hI
        have c0 := bx.cell (i := 0) (by omega)
        have c1 := bx.cell (i := 1) (by omega)
        have c2 := bx.cell (i := 2) (by omega)
        have c3 := bx.cell (i := 3) (by omega)
        go_wp2
        exact ⟨bx, by_, bel, s5, s6, agg4 X, s9, s10, s11, s12, s13, rfl, fun _ => rfl, e1, e2, e3, e4, e5, e6, e7, e67, e8, e9⟩
      · -- operation 1
        obtain rfl := Option.some.inj ho
        obtain ⟨bx, by_, bel, s5, s6, s8, s9, s10, s11, s12, s13, rfl, e0, e1, e2, e3, e4, e5, e6, e7, e67, e8, e9⟩ := hI
        have c0 := by_.cell (i := 0) (by omega)
        have c1 := by_.cell (i := 1) (by omega)
        have c2 := by_.cell (i := 2) (by omega)
        have c3 := by_.cell (i := 3) (by omega)
        go_wp2
        exact ⟨bx, by_, bel, s5, s6, s8, agg4 Y, s10, s11, s12, s13, rfl, e0, fun _ => rfl, e2, e3, e4, e5, e6, e7, e67, e8, e9⟩
      · -- operation 2
        obtain rfl := Option.some.inj ho
        have l1 : L 0 = true := he ⟨0, .data⟩ (by simp) rfl
        have l2 : L 1 = true := he ⟨1, .data⟩ (by simp) rfl
        clear he
        obtain ⟨bx, by_, bel, s5, s6, s8, s9, s10, s11, s12, s13, rfl, e0, e1, e2, e3, e4, e5, e6, e7, e67, e8, e9⟩ := hI
        obtain rfl := e0 l1
        obtain rfl := e1 l2
        go_wp2_with fail
        refine (greatest_any X Y _).mono ?_
        rintro e w1 ⟨rfl, hb1⟩
        go_wp2
        have f6 : L 6 = true → ∃ g, s5 = .pointer (some ⟨g, 0, none⟩) ∧ w0.heap.size + 1 < g ∧ At4 w1 g (fun i => if L 8 then max (X i) (Y i) else 0) := fun h => by
          obtain ⟨g, h1, h2, h3⟩ := e6 h
          exact ⟨g, h1, h2, h3.below hb1 h3.lt⟩
        have f7 : L 7 = true → ∃ g, s6 = .pointer (some ⟨g, 0, none⟩) ∧ w0.heap.size + 1 < g ∧ At4 w1 g (fun i => if L 9 then max (Y i) (X i) else 0) := fun h => by
          obtain ⟨g, h1, h2, h3⟩ := e7 h
          exact ⟨g, h1, h2, h3.below hb1 h3.lt⟩
        exact ⟨bx.below hb1 bx.lt, by_.below hb1 by_.lt, bel.trans (hb1.mono bel.size), s5, s6, agg4 X, agg4 Y, agg4 (fun i => max (X i) (Y i)), s11, s12, s13, rfl, fun _ => rfl, fun _ => rfl, fun _ => rfl, e3, e4, e5, f6, f7, e67, e8, e9⟩
      · -- operation 3
        obtain rfl := Option.some.inj ho
        obtain ⟨bx, by_, bel, s5, s6, s8, s9, s10, s11, s12, s13, rfl, e0, e1, e2, e3, e4, e5, e6, e7, e67, e8, e9⟩ := hI
        have c0 := by_.cell (i := 0) (by omega)
        have c1 := by_.cell (i := 1) (by omega)
        have c2 := by_.cell (i := 2) (by omega)
        have c3 := by_.cell (i := 3) (by omega)
        go_wp2
        exact ⟨bx, by_, bel, s5, s6, s8, s9, s10, agg4 Y, s12, s13, rfl, e0, e1, e2, fun _ => rfl, e4, e5, e6, e7, e67, e8, e9⟩
      · -- operation 4
        obtain rfl := Option.some.inj ho
        obtain ⟨bx, by_, bel, s5, s6, s8, s9, s10, s11, s12, s13, rfl, e0, e1, e2, e3, e4, e5, e6, e7, e67, e8, e9⟩ := hI
        have c0 := bx.cell (i := 0) (by omega)
        have c1 := bx.cell (i := 1) (by omega)
        have c2 := bx.cell (i := 2) (by omega)
        have c3 := bx.cell (i := 3) (by omega)
        go_wp2
        exact ⟨bx, by_, bel, s5, s6, s8, s9, s10, s11, agg4 X, s13, rfl, e0, e1, e2, e3, fun _ => rfl, e5, e6, e7, e67, e8, e9⟩
      · -- operation 5
        obtain rfl := Option.some.inj ho
        have l1 : L 3 = true := he ⟨3, .data⟩ (by simp) rfl
        have l2 : L 4 = true := he ⟨4, .data⟩ (by simp) rfl
        clear he
        obtain ⟨bx, by_, bel, s5, s6, s8, s9, s10, s11, s12, s13, rfl, e0, e1, e2, e3, e4, e5, e6, e7, e67, e8, e9⟩ := hI
        obtain rfl := e3 l1
        obtain rfl := e4 l2
        go_wp2_with fail
        refine (greatest_any Y X _).mono ?_
        rintro e w1 ⟨rfl, hb1⟩
        go_wp2
        have f6 : L 6 = true → ∃ g, s5 = .pointer (some ⟨g, 0, none⟩) ∧ w0.heap.size + 1 < g ∧ At4 w1 g (fun i => if L 8 then max (X i) (Y i) else 0) := fun h => by
          obtain ⟨g, h1, h2, h3⟩ := e6 h
          exact ⟨g, h1, h2, h3.below hb1 h3.lt⟩
        have f7 : L 7 = true → ∃ g, s6 = .pointer (some ⟨g, 0, none⟩) ∧ w0.heap.size + 1 < g ∧ At4 w1 g (fun i => if L 9 then max (Y i) (X i) else 0) := fun h => by
          obtain ⟨g, h1, h2, h3⟩ := e7 h
          exact ⟨g, h1, h2, h3.below hb1 h3.lt⟩
        exact ⟨bx.below hb1 bx.lt, by_.below hb1 by_.lt, bel.trans (hb1.mono bel.size), s5, s6, s8, s9, s10, agg4 Y, agg4 X, agg4 (fun i => max (Y i) (X i)), rfl, e0, e1, e2, fun _ => rfl, fun _ => rfl, fun _ => rfl, f6, f7, e67, e8, e9⟩
      · -- operation 6
        obtain rfl := Option.some.inj ho
        obtain ⟨bx, by_, bel, s5, s6, s8, s9, s10, s11, s12, s13, rfl, e0, e1, e2, e3, e4, e5, e6, e7, e67, e8, e9⟩ := hI
        have fo : L 7 = true → ∃ g, s6 = .pointer (some ⟨g, 0, none⟩) ∧ w0.heap.size + 1 < g ∧ At4 (w.alloc (.cells #[.int .u32 0, .int .u32 0, .int .u32 0, .int .u32 0] 30)) g (fun i => if L 9 then max (Y i) (X i) else 0) := fun h => by
          obtain ⟨g, h1, h2, h3⟩ := e7 h
          exact ⟨g, h1, h2, h3.alloc _⟩
        have fm : ∃ g, Value.pointer (some ⟨w.heap.size, 0, none⟩) = .pointer (some ⟨g, 0, none⟩) ∧ w0.heap.size + 1 < g ∧ At4 (w.alloc (.cells #[.int .u32 0, .int .u32 0, .int .u32 0, .int .u32 0] 30)) g (fun i => if L 8 then max (X i) (Y i) else 0) := by
          refine ⟨w.heap.size, rfl, by_.lt, ?_⟩
          have h8 : L 8 = false := by
            cases h : L 8 with
            | false => rfl
            | true => rw [e8 h] at hL; cases hL
          rw [h8]
          exact row4_is w 30 (fun _ => 0)
        have fne : L 7 = true → (Value.pointer (some ⟨w.heap.size, 0, none⟩) ≠ s6) := fun h => by
          obtain ⟨g, h1, _, h3⟩ := e7 h
          rw [h1]
          intro hh
          have := h3.lt
          injection hh with hh
          injection hh with hh
          injection hh with hh
          omega
        go_wp2
        exact ⟨bx.alloc _, by_.alloc _, bel.alloc bel.size _, Value.pointer (some ⟨w.heap.size, 0, none⟩), s6, s8, s9, s10, s11, s12, s13, rfl, e0, e1, e2, e3, e4, e5, fun _ => fm, fo, fun _ h => fne h, fun _ => rfl, e9⟩
      · -- operation 7
        obtain rfl := Option.some.inj ho
        obtain ⟨bx, by_, bel, s5, s6, s8, s9, s10, s11, s12, s13, rfl, e0, e1, e2, e3, e4, e5, e6, e7, e67, e8, e9⟩ := hI
        have fo : L 6 = true → ∃ g, s5 = .pointer (some ⟨g, 0, none⟩) ∧ w0.heap.size + 1 < g ∧ At4 (w.alloc (.cells #[.int .u32 0, .int .u32 0, .int .u32 0, .int .u32 0] 30)) g (fun i => if L 8 then max (X i) (Y i) else 0) := fun h => by
          obtain ⟨g, h1, h2, h3⟩ := e6 h
          exact ⟨g, h1, h2, h3.alloc _⟩
        have fm : ∃ g, Value.pointer (some ⟨w.heap.size, 0, none⟩) = .pointer (some ⟨g, 0, none⟩) ∧ w0.heap.size + 1 < g ∧ At4 (w.alloc (.cells #[.int .u32 0, .int .u32 0, .int .u32 0, .int .u32 0] 30)) g (fun i => if L 9 then max (Y i) (X i) else 0) := by
          refine ⟨w.heap.size, rfl, by_.lt, ?_⟩
          have h8 : L 9 = false := by
            cases h : L 9 with
            | false => rfl
            | true => rw [e9 h] at hL; cases hL
          rw [h8]
          exact row4_is w 30 (fun _ => 0)
        have fne : L 6 = true → (s5 ≠ Value.pointer (some ⟨w.heap.size, 0, none⟩)) := fun h => by
          obtain ⟨g, h1, _, h3⟩ := e6 h
          rw [h1]
          intro hh
          have := h3.lt
          injection hh with hh
          injection hh with hh
          injection hh with hh
          omega
        go_wp2
        exact ⟨bx.alloc _, by_.alloc _, bel.alloc bel.size _, s5, Value.pointer (some ⟨w.heap.size, 0, none⟩), s8, s9, s10, s11, s12, s13, rfl, e0, e1, e2, e3, e4, e5, fo, fun _ => fm, fun h _ => fne h, e8, fun _ => rfl⟩
      · -- operation 8
        obtain rfl := Option.some.inj ho
        have l1 : L 6 = true := he ⟨6, .data⟩ (by simp) rfl
        have l2 : L 2 = true := he ⟨2, .data⟩ (by simp) rfl
        clear he
        obtain ⟨bx, by_, bel, s5, s6, s8, s9, s10, s11, s12, s13, rfl, e0, e1, e2, e3, e4, e5, e6, e7, e67, e8, e9⟩ := hI
        obtain rfl := e2 l2
        obtain ⟨g, rfl, hgt, hrow⟩ := e6 l1
        have hL' : L 8 = false := hL
        have c0 : ∃ v, w.cell? ⟨g, 0, none⟩ = some v := ⟨_, hrow.cell (i := 0) (by omega)⟩
        have c1 : ∃ v, w.cell? ⟨g, 1, none⟩ = some v := ⟨_, hrow.cell (i := 1) (by omega)⟩
        have c2 : ∃ v, w.cell? ⟨g, 2, none⟩ = some v := ⟨_, hrow.cell (i := 2) (by omega)⟩
        have c3 : ∃ v, w.cell? ⟨g, 3, none⟩ = some v := ⟨_, hrow.cell (i := 3) (by omega)⟩
        obtain ⟨u0, c0⟩ := c0
        obtain ⟨u1, c1⟩ := c1
        obtain ⟨u2, c2⟩ := c2
        obtain ⟨u3, c3⟩ := c3
        have z0 := hrow.frozen 0
        have z1 := hrow.frozen 1
        have z2 := hrow.frozen 2
        have z3 := hrow.frozen 3
        have fm : At4 ((((w.setCell ⟨g, 0, none⟩ (.int .u32 (max (X 0) (Y 0)))).setCell ⟨g, 1, none⟩ (.int .u32 (max (X 1) (Y 1)))).setCell ⟨g, 2, none⟩ (.int .u32 (max (X 2) (Y 2)))).setCell ⟨g, 3, none⟩ (.int .u32 (max (X 3) (Y 3)))) g (fun i => if true = true then max (X i) (Y i) else 0) := (((((hrow.set 0 _).set 1 _).set 2 _).set 3 _).congr (fun i hi => by
          have : i = 0 ∨ i = 1 ∨ i = 2 ∨ i = 3 := by omega
          rcases this with rfl | rfl | rfl | rfl <;> simp))
        have fo : L 7 = true → ∃ g', s6 = .pointer (some ⟨g', 0, none⟩) ∧ w0.heap.size + 1 < g' ∧ At4 ((((w.setCell ⟨g, 0, none⟩ (.int .u32 (max (X 0) (Y 0)))).setCell ⟨g, 1, none⟩ (.int .u32 (max (X 1) (Y 1)))).setCell ⟨g, 2, none⟩ (.int .u32 (max (X 2) (Y 2)))).setCell ⟨g, 3, none⟩ (.int .u32 (max (X 3) (Y 3)))) g' (fun i => if L 9 then max (Y i) (X i) else 0) := fun h => by
          obtain ⟨g', h1, h2, h3⟩ := e7 h
          have hne : g' ≠ g := by
            intro hgg
            subst hgg
            exact e67 l1 h (by rw [h1])
          exact ⟨g', h1, h2, ((((h3.setOther hne _).setOther hne _).setOther hne _).setOther hne _)⟩
        have hbx : At4 ((((w.setCell ⟨g, 0, none⟩ (.int .u32 (max (X 0) (Y 0)))).setCell ⟨g, 1, none⟩ (.int .u32 (max (X 1) (Y 1)))).setCell ⟨g, 2, none⟩ (.int .u32 (max (X 2) (Y 2)))).setCell ⟨g, 3, none⟩ (.int .u32 (max (X 3) (Y 3)))) w0.heap.size X := ((((bx.setOther (by show _ ≠ g; omega) _).setOther (by show _ ≠ g; omega) _).setOther (by show _ ≠ g; omega) _).setOther (by show _ ≠ g; omega) _)
        have hby : At4 ((((w.setCell ⟨g, 0, none⟩ (.int .u32 (max (X 0) (Y 0)))).setCell ⟨g, 1, none⟩ (.int .u32 (max (X 1) (Y 1)))).setCell ⟨g, 2, none⟩ (.int .u32 (max (X 2) (Y 2)))).setCell ⟨g, 3, none⟩ (.int .u32 (max (X 3) (Y 3)))) (w0.heap.size + 1) Y := ((((by_.setOther (by show _ ≠ g; omega) _).setOther (by show _ ≠ g; omega) _).setOther (by show _ ≠ g; omega) _).setOther (by show _ ≠ g; omega) _)
        have hbel : Below w0.heap.size w0 ((((w.setCell ⟨g, 0, none⟩ (.int .u32 (max (X 0) (Y 0)))).setCell ⟨g, 1, none⟩ (.int .u32 (max (X 1) (Y 1)))).setCell ⟨g, 2, none⟩ (.int .u32 (max (X 2) (Y 2)))).setCell ⟨g, 3, none⟩ (.int .u32 (max (X 3) (Y 3)))) := ((((bel.setCell (p := ⟨g, 0, none⟩) (by show _ ≤ g; omega) _).setCell (p := ⟨g, 1, none⟩) (by show _ ≤ g; omega) _).setCell (p := ⟨g, 2, none⟩) (by show _ ≤ g; omega) _).setCell (p := ⟨g, 3, none⟩) (by show _ ≤ g; omega) _)
        have HH := Lib.hid (And.intro fm (And.intro fo (And.intro hbx (And.intro hby hbel))))
        clear fm fo hbx hby hbel hrow bx by_ bel
        go_wp2
        obtain ⟨fm, fo, hbx, hby, hbel⟩ := HH.out
        exact ⟨hbx, hby, hbel, Value.pointer (some ⟨g, 0, none⟩), s6, s8, s9, agg4 (fun i => max (X i) (Y i)), s11, s12, s13, rfl, e0, e1, fun _ => rfl, e3, e4, e5, fun _ => ⟨g, rfl, hgt, fm⟩, fo, e67, fun _ => l1, e9⟩
      · -- operation 9
        obtain rfl := Option.some.inj ho
        have l1 : L 7 = true := he ⟨7, .data⟩ (by simp) rfl
        have l2 : L 5 = true := he ⟨5, .data⟩ (by simp) rfl
        clear he
        obtain ⟨bx, by_, bel, s5, s6, s8, s9, s10, s11, s12, s13, rfl, e0, e1, e2, e3, e4, e5, e6, e7, e67, e8, e9⟩ := hI
        obtain rfl := e5 l2
        obtain ⟨g, rfl, hgt, hrow⟩ := e7 l1
        have hL' : L 9 = false := hL
        have c0 : ∃ v, w.cell? ⟨g, 0, none⟩ = some v := ⟨_, hrow.cell (i := 0) (by omega)⟩
        have c1 : ∃ v, w.cell? ⟨g, 1, none⟩ = some v := ⟨_, hrow.cell (i := 1) (by omega)⟩
        have c2 : ∃ v, w.cell? ⟨g, 2, none⟩ = some v := ⟨_, hrow.cell (i := 2) (by omega)⟩
        have c3 : ∃ v, w.cell? ⟨g, 3, none⟩ = some v := ⟨_, hrow.cell (i := 3) (by omega)⟩
        obtain ⟨u0, c0⟩ := c0
        obtain ⟨u1, c1⟩ := c1
        obtain ⟨u2, c2⟩ := c2
        obtain ⟨u3, c3⟩ := c3
        have z0 := hrow.frozen 0
        have z1 := hrow.frozen 1
        have z2 := hrow.frozen 2
        have z3 := hrow.frozen 3
        have fm : At4 ((((w.setCell ⟨g, 0, none⟩ (.int .u32 (max (Y 0) (X 0)))).setCell ⟨g, 1, none⟩ (.int .u32 (max (Y 1) (X 1)))).setCell ⟨g, 2, none⟩ (.int .u32 (max (Y 2) (X 2)))).setCell ⟨g, 3, none⟩ (.int .u32 (max (Y 3) (X 3)))) g (fun i => if true = true then max (Y i) (X i) else 0) := (((((hrow.set 0 _).set 1 _).set 2 _).set 3 _).congr (fun i hi => by
          have : i = 0 ∨ i = 1 ∨ i = 2 ∨ i = 3 := by omega
          rcases this with rfl | rfl | rfl | rfl <;> simp))
        have fo : L 6 = true → ∃ g', s5 = .pointer (some ⟨g', 0, none⟩) ∧ w0.heap.size + 1 < g' ∧ At4 ((((w.setCell ⟨g, 0, none⟩ (.int .u32 (max (Y 0) (X 0)))).setCell ⟨g, 1, none⟩ (.int .u32 (max (Y 1) (X 1)))).setCell ⟨g, 2, none⟩ (.int .u32 (max (Y 2) (X 2)))).setCell ⟨g, 3, none⟩ (.int .u32 (max (Y 3) (X 3)))) g' (fun i => if L 8 then max (X i) (Y i) else 0) := fun h => by
          obtain ⟨g', h1, h2, h3⟩ := e6 h
          have hne : g' ≠ g := by
            intro hgg
            subst hgg
            exact e67 h l1 (by rw [h1])
          exact ⟨g', h1, h2, ((((h3.setOther hne _).setOther hne _).setOther hne _).setOther hne _)⟩
        have hbx : At4 ((((w.setCell ⟨g, 0, none⟩ (.int .u32 (max (Y 0) (X 0)))).setCell ⟨g, 1, none⟩ (.int .u32 (max (Y 1) (X 1)))).setCell ⟨g, 2, none⟩ (.int .u32 (max (Y 2) (X 2)))).setCell ⟨g, 3, none⟩ (.int .u32 (max (Y 3) (X 3)))) w0.heap.size X := ((((bx.setOther (by show _ ≠ g; omega) _).setOther (by show _ ≠ g; omega) _).setOther (by show _ ≠ g; omega) _).setOther (by show _ ≠ g; omega) _)
        have hby : At4 ((((w.setCell ⟨g, 0, none⟩ (.int .u32 (max (Y 0) (X 0)))).setCell ⟨g, 1, none⟩ (.int .u32 (max (Y 1) (X 1)))).setCell ⟨g, 2, none⟩ (.int .u32 (max (Y 2) (X 2)))).setCell ⟨g, 3, none⟩ (.int .u32 (max (Y 3) (X 3)))) (w0.heap.size + 1) Y := ((((by_.setOther (by show _ ≠ g; omega) _).setOther (by show _ ≠ g; omega) _).setOther (by show _ ≠ g; omega) _).setOther (by show _ ≠ g; omega) _)
        have hbel : Below w0.heap.size w0 ((((w.setCell ⟨g, 0, none⟩ (.int .u32 (max (Y 0) (X 0)))).setCell ⟨g, 1, none⟩ (.int .u32 (max (Y 1) (X 1)))).setCell ⟨g, 2, none⟩ (.int .u32 (max (Y 2) (X 2)))).setCell ⟨g, 3, none⟩ (.int .u32 (max (Y 3) (X 3)))) := ((((bel.setCell (p := ⟨g, 0, none⟩) (by show _ ≤ g; omega) _).setCell (p := ⟨g, 1, none⟩) (by show _ ≤ g; omega) _).setCell (p := ⟨g, 2, none⟩) (by show _ ≤ g; omega) _).setCell (p := ⟨g, 3, none⟩) (by show _ ≤ g; omega) _)
        have HH := Lib.hid (And.intro fm (And.intro fo (And.intro hbx (And.intro hby hbel))))
        clear fm fo hbx hby hbel hrow bx by_ bel
        go_wp2
        obtain ⟨fm, fo, hbx, hby, hbel⟩ := HH.out
        exact ⟨hbx, hby, hbel, s5, Value.pointer (some ⟨g, 0, none⟩), s8, s9, s10, s11, s12, agg4 (fun i => max (Y i) (X i)), rfl, e0, e1, e2, e3, e4, fun _ => rfl, fo, fun _ => ⟨g, rfl, hgt, fm⟩, e67, e8, fun _ => l1⟩
    case fin =>
      rintro a w ⟨bx, by_, bel, s5, s6, s8, s9, s10, s11, s12, s13, rfl, e0, e1, e2, e3, e4, e5, e6, e7, e67, e8, e9⟩
      obtain ⟨g5, rfl, _, h5⟩ := e6 rfl
      obtain ⟨g6, rfl, _, h6⟩ := e7 rfl
      dsimp only [Exit.then]
      go_wp2_with fail
      go_meet
      exact ⟨g5, g6, rfl, rfl, h5, h6, bx, by_, bel⟩
  case rest =>
    obtain ⟨g5, g6, rfl, rfl, H5, H6, HX, HY, HW⟩ := hcut
    go_wp2
    go_loopw [14] (fun v wr => ∃ k : Nat, k ≤ 4 ∧ v = .int .i64 k ∧ ∃ n, wr = wc.drewN n) (fun v _ => 4 - (intOf v).toNat)
    case atStart => exact ⟨0, by omega, rfl, 0, rfl⟩
    case round =>
      obtain ⟨k, hk, rfl, n, rfl⟩ := hrel
      by_cases h4 : k < 4
      · have cm : wc.cell? ⟨g5, k, none⟩ = some (.int .u32 (max (X k) (Y k))) := H5.out.cell h4
        have cx : wc.cell? ⟨w0.heap.size, k, none⟩ = some (.int .u32 (X k)) := HX.out.cell h4
        have cy : wc.cell? ⟨w0.heap.size + 1, k, none⟩ = some (.int .u32 (Y k)) := HY.out.cell h4
        have hk' : (0 : Int) ≤ (k : Int) ∧ (k : Int) < 4 := by omega
        go_wp2
        go_quiet (fail)
        go_wp2
        go_roundw
        case rel => exact ⟨k + 1, by omega, by go_num, n + nq, rfl⟩
        case measure => simp [intOf]; omega
      · have hm4 : At4 wc g6 (fun i => max (X i) (Y i)) := H6.out.congr (fun i _ => congrArg (Value.int .u32) (Int.max_comm (Y i) (X i)))
        have a5 := fun i (hi : i < 4) => cell_regrown (w := wc.drewN n) (H5.out.cell hi)
        have a6 := fun i (hi : i < 4) => cell_regrown (w := wc.drewN n) (hm4.cell hi)
        have ax := fun i (hi : i < 4) => cell_regrown (w := wc.drewN n) (HX.out.cell hi)
        have a50 := a5 0 (by omega)
        have a51 := a5 1 (by omega)
        have a52 := a5 2 (by omega)
        have a53 := a5 3 (by omega)
        have a60 := a6 0 (by omega)
        have a61 := a6 1 (by omega)
        have a62 := a6 2 (by omega)
        have a63 := a6 3 (by omega)
        have ax0 := ax 0 (by omega)
        have ax1 := ax 1 (by omega)
        have ax2 := ax 2 (by omega)
        have ax3 := ax 3 (by omega)
        clear a5 a6 ax hm4
        have hgd : ∀ d os, Glob (Go.Sort.grow (redrawn (wc.drewN n) d) os) := fun d os => ((hg.below HW.out hg.size).drewN n).below (below_regrown (wc.drewN n) d os) (Nat.le_trans hg.size HW.out.size)
        have HGD := Lib.hid hgd
        clear hgd
        have hB := Lib.hid (below_drewN HW.out n)
        generalize wc.drewN n = wn at *
        have hql := eql_arr4
        go_wp2
        refine wp_region_quiet_below (by kernel_rfl) (by kernel_rfl) ?_
        repeat (quiet_step ((first | (go_at_call 20; exact Calls.regrown_of (greatest_absorb X Y _)) | (go_at_call 15; exact Calls.regrown_of (wakes_any _ (HGD.out _ _))))))
        refine wpQuiet_nil ?_
        intro w' hw'
        obtain ⟨⟨d, os⟩, hw''⟩ := hw'
        subst hw''
        go_wp2
        go_ret
        exact ⟨rfl, hB.out.trans ((below_regrown wn d os).mono hB.out.size)⟩
end Go.Proofs.YtbkgbnejmgjiiaaDoor
