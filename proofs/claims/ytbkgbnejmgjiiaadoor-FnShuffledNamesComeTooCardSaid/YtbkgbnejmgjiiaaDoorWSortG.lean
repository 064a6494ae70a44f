/- sort.order2, median, medianAdjacent, choosePivot over an array whose methods compare. Conditions: the bounds lie in the array. Printed by sg6.py. -/
import Derived.Test.YtbkgbnejmgjiiaaDoorWSortF
import Derived.Sort.LotD1
import Derived.Sort.LotD4
import Derived.Shelf.GgSortFunc.Pivot
namespace Go.Proofs.YtbkgbnejmgjiiaaDoor
open Go.RowKit Go.Lib Go.Sort
variable {α : Type}

/-- the array holds d, the counter at cb holds s -/
structure Cn (I : Array α → World → Prop) (blk : Nat) (w : World) (d : Array α) (cb s : Nat) (W : World) : Prop where
  at_ : At I blk w d W
  cell : W.cell? ⟨cb, 0, none⟩ = some (.int .i64 s)
  free : W.frozen? ⟨cb, 0, none⟩ = false
  lt : cb < W.heap.size
  new : w.heap.size ≤ cb
  ne : blk ≠ cb
theorem Cn.less [Inhabited α] {blk : Nat} {rv : Value} {lt : α → α → Bool} {size : Nat} {I : Array α → World → Prop} {w W : World} {d : Array α} {cb s : Nat} (S : Srt blk rv lt size I) (h : Cn I blk w d cb s W) {i j : Nat} (hi : i < size) (hj : j < size) :
    Calls Tryd.prog 102 #[rv, .int .i64 i, .int .i64 j] W fun e w' => e = .returned (.bool (lt d[i]! d[j]!)) ∧ Cn I blk w d cb s w' :=
  (S.less d W i j h.at_.inv hi hj).mono fun _ _ ⟨e, h1, h2⟩ => ⟨e, h.at_.of_swap h1 h2, (grownBy_cell h2 (p := ⟨cb, 0, none⟩) h.lt (fun e => h.ne e.symm)).trans h.cell, (grownBy_frozen h2 (p := ⟨cb, 0, none⟩) h.lt (fun e => h.ne e.symm)).trans h.free, Nat.lt_of_lt_of_le h.lt h2.size, h.new, h.ne⟩
theorem Cn.count [Inhabited α] {blk : Nat} {rv : Value} {lt : α → α → Bool} {size : Nat} {I : Array α → World → Prop} {w W : World} {d : Array α} {cb s : Nat} (S : Srt blk rv lt size I) (h : Cn I blk w d cb s W) (s' : Nat) : Cn I blk w d cb s' (W.setCell ⟨cb, 0, none⟩ (.int .i64 (s' : Int))) where
  at_ := h.at_.setNew S (p := ⟨cb, 0, none⟩) h.new h.ne _
  cell := World.cell?_setCell_same _ _ _ h.cell
  free := by have := h.free; simpa using this
  lt := by have := h.lt; simpa [World.setCell] using this
  new := h.new
  ne := h.ne

set_option maxHeartbeats 2000000 in
set_option maxRecDepth 100000 in
theorem order2_at [Inhabited α] {blk : Nat} {rv : Value} {lt : α → α → Bool} {size : Nat} {I : Array α → World → Prop} (S : Srt blk rv lt size I) (a b cb s : Nat) (d : Array α) (w W : World) (h : Cn I blk w d cb s W) (ha : a < size) (hb : b < size) (hs : s < 1000) :
    Calls Tryd.prog 81 #[.iface 132 rv, .int .i64 a, .int .i64 b, .pointer (some ⟨cb, 0, none⟩)] W fun e w' => e = .returned (.tuple #[.int .i64 (order2 lt d a b s).1, .int .i64 (order2 lt d a b s).2.1]) ∧ Cn I blk w d cb (order2 lt d a b s).2.2 w' := by
  obtain ⟨p, n, c, rfl⟩ := S.isSlice
  have hsz := S.small
  have HS := Lib.hid S
  have mL := method_less p n c
  clear S
  have HL := Lib.hid (h.less HS.out hb ha)
  clear h
  go_enter Tryd.func81, Tryd.ntmps81
  cases hlv : lt d[b]! d[a]! with
  | true =>
    rw [hlv] at HL
    have e2 : order2 lt d a b s = (b, a, s + 1) := by simp [order2, hlv]
    rw [e2]
    go_wp2_with fail
    refine HL.out.mono ?_
    rintro e w2 ⟨rfl, hc⟩
    have c0 := hc.cell
    have f0 := hc.free
    have HC := Lib.hid (hc.count HS.out (s + 1))
    clear hc HL e2
    go_wp2
    go_ret2
    exact ⟨rfl, HC.out⟩
  | false =>
    rw [hlv] at HL
    have e2 : order2 lt d a b s = (a, b, s) := by simp [order2, hlv]
    rw [e2]
    go_wp2_with fail
    refine HL.out.mono ?_
    rintro e w2 ⟨rfl, hc⟩
    have HC := Lib.hid hc
    clear hc HL e2
    go_wp2
    go_ret2
    exact ⟨rfl, HC.out⟩

set_option maxHeartbeats 2000000 in
set_option maxRecDepth 100000 in
theorem median_at [Inhabited α] {blk : Nat} {rv : Value} {lt : α → α → Bool} {size : Nat} {I : Array α → World → Prop} (S : Srt blk rv lt size I) (a b c0 cb s : Nat) (d : Array α) (w W : World) (h : Cn I blk w d cb s W) (ha : a < size) (hb : b < size) (hc : c0 < size) (hs : s < 900) :
    Calls Tryd.prog 80 #[.iface 132 rv, .int .i64 a, .int .i64 b, .int .i64 c0, .pointer (some ⟨cb, 0, none⟩)] W fun e w' => e = .returned (.int .i64 (median lt d a b c0 s).1) ∧ Cn I blk w d cb (median lt d a b c0 s).2 w' := by
  have HS := Lib.hid S
  have HC := Lib.hid h
  clear S h
  have l1 := order2_lt' lt d s ha hb
  have s1 := order2_swaps' lt d a b s
  have l2 := order2_lt' lt d (order2 lt d a b s).2.2 l1.2 hc
  have s2 := order2_swaps' lt d (order2 lt d a b s).2.1 c0 (order2 lt d a b s).2.2
  go_enter Tryd.func80, Tryd.ntmps80
  go_wp2_with fail
  refine (order2_at HS.out a b cb s d w W HC.out ha hb (by omega)).mono ?_
  rintro e w1 ⟨rfl, h1⟩
  have HC1 := Lib.hid h1
  clear h1 HC
  go_wp2_with fail
  refine (order2_at HS.out _ c0 cb _ d w w1 HC1.out l1.2 hc (by omega)).mono ?_
  rintro e w2 ⟨rfl, h2⟩
  have HC2 := Lib.hid h2
  clear h2 HC1
  go_wp2_with fail
  refine (order2_at HS.out _ _ cb _ d w w2 HC2.out l1.1 l2.1 (by omega)).mono ?_
  rintro e w3 ⟨rfl, h3⟩
  have HC3 := Lib.hid h3
  clear h3 HC2
  go_wp2
  go_ret
  exact ⟨rfl, HC3.out⟩

set_option maxHeartbeats 2000000 in
set_option maxRecDepth 100000 in
theorem medianAdjacent_at [Inhabited α] {blk : Nat} {rv : Value} {lt : α → α → Bool} {size : Nat} {I : Array α → World → Prop} (S : Srt blk rv lt size I) (a cb s : Nat) (d : Array α) (w W : World) (h : Cn I blk w d cb s W) (ha1 : 1 ≤ a) (ha2 : a + 1 < size) (hs : s < 900) :
    Calls Tryd.prog 79 #[.iface 132 rv, .int .i64 a, .pointer (some ⟨cb, 0, none⟩)] W fun e w' => e = .returned (.int .i64 (medianAdjacent lt d a s).1) ∧ Cn I blk w d cb (medianAdjacent lt d a s).2 w' := by
  have HM := Lib.hid (median_at S (a - 1) a (a + 1) cb s d w W h (by omega) (by omega) ha2 hs)
  rw [show ((a - 1 : Nat) : Int) = (a : Int) - 1 by omega, show ((a + 1 : Nat) : Int) = (a : Int) + 1 by omega] at HM
  have hsz := S.small
  clear S h
  go_enter Tryd.func79, Tryd.ntmps79
  go_wp2_with fail
  refine HM.out.mono ?_
  rintro e w2 ⟨rfl, hc⟩
  have HC := Lib.hid hc
  clear hc HM
  go_wp2
  go_ret
  exact ⟨rfl, HC.out⟩

set_option maxHeartbeats 4000000 in
set_option maxRecDepth 100000 in
theorem choosePivot_at [Inhabited α] {blk : Nat} {rv : Value} {lt : α → α → Bool} {size : Nat} {I : Array α → World → Prop} (S : Srt blk rv lt size I) (a b : Nat) (d : Array α) (w : World) (hI : I d w) (hab : a < b) (hb : b ≤ size) :
    Calls Tryd.prog 71 #[.iface 132 rv, .int .i64 a, .int .i64 b] w fun e w' => e = .returned (.tuple #[.int .i64 (choosePivot lt d a b).1, .int .i64 (hintCode (choosePivot lt d a b).2)]) ∧ At I blk w d w' := by
  have hsz := S.small
  have hblk := S.below d w hI
  have HS := Lib.hid S
  have HI := Lib.hid hI
  clear S hI
  rw [choosePivot_eq]
  obtain ⟨II, hII⟩ : ∃ II : Nat, II = a + (b - a) / 4 * 1 := ⟨_, rfl⟩
  obtain ⟨JJ, hJJ⟩ : ∃ JJ : Nat, JJ = a + (b - a) / 4 * 2 := ⟨_, rfl⟩
  obtain ⟨KK, hKK⟩ : ∃ KK : Nat, KK = a + (b - a) / 4 * 3 := ⟨_, rfl⟩
  have eI : ((a : Int) + ((b : Int) - (a : Int)) / 4) = (II : Int) := by omega
  have eJ : ((a : Int) + ((b : Int) - (a : Int)) / 4 * 2) = (JJ : Int) := by omega
  have eK : ((a : Int) + ((b : Int) - (a : Int)) / 4 * 3) = (KK : Int) := by omega
  by_cases h8 : b - a ≥ 8
  · by_cases h50 : b - a ≥ 50
    · obtain ⟨i1, s1, h1⟩ : ∃ i1 s1, medianAdjacent lt d II 0 = (i1, s1) := ⟨_, _, rfl⟩
      obtain ⟨j1, s2, h2⟩ : ∃ j1 s2, medianAdjacent lt d JJ s1 = (j1, s2) := ⟨_, _, rfl⟩
      obtain ⟨k1, s3, h3⟩ : ∃ k1 s3, medianAdjacent lt d KK s2 = (k1, s3) := ⟨_, _, rfl⟩
      obtain ⟨p0, s, h4⟩ : ∃ p0 s, median lt d i1 j1 k1 s3 = (p0, s) := ⟨_, _, rfl⟩
      have hraw : rawPivot lt d a b = (p0, s) := by simp only [rawPivot, if_pos h8, if_pos h50, ← hII, ← hJJ, ← hKK, h1, h2, h3, h4]
      have m1 := medianAdjacent_mem lt d II 0; rw [h1] at m1
      have m2 := medianAdjacent_mem lt d JJ s1; rw [h2] at m2
      have m3 := medianAdjacent_mem lt d KK s2; rw [h3] at m3
      have n1 := medianAdjacent_count lt d II 0; rw [h1] at n1
      have n2 := medianAdjacent_count lt d JJ s1; rw [h2] at n2
      have n3 := medianAdjacent_count lt d KK s2; rw [h3] at n3
      simp only [] at m1 m2 m3 n1 n2 n3
      have li : i1 < size := by omega
      have lj : j1 < size := by omega
      have lk : k1 < size := by omega
      have H1 := Lib.hid h1
      have H2 := Lib.hid h2
      have H3 := Lib.hid h3
      have H4 := Lib.hid h4
      rw [hraw]
      obtain ⟨Hc, hHc⟩ : ∃ Hc : Int, Hc = hintCode (hintOf s) := ⟨_, rfl⟩
      have hh0 : s = 0 → Hc = 1 := fun h => by rw [hHc, h]; rfl
      have hh12 : s = 12 → Hc = 2 := fun h => by rw [hHc, h]; rfl
      have hhx : s ≠ 0 → s ≠ 12 → Hc = 0 := fun h1 h2 => by rw [hHc]; unfold hintOf; rw [if_neg h1, if_neg h2]; rfl
      show Calls Tryd.prog 71 _ w fun e w' => e = .returned (.tuple #[.int .i64 (p0 : Int), .int .i64 (hintCode (hintOf s))]) ∧ At I blk w d w'
      rw [← hHc]
      clear hHc hraw
      have g1 : 1 ≤ II ∧ II + 1 < size := by omega
      have g2 : 1 ≤ JJ ∧ JJ + 1 < size := by omega
      have g3 : 1 ≤ KK ∧ KK + 1 < size := by omega
      clear h1 h2 h3 h4 hII hJJ hKK m1 m2 m3
      have HC0 : Hid (Cn I blk w d w.heap.size 0 (w.alloc (.cells #[.int .i64 0] 3))) := ⟨(At.start HI.out).alloc HS.out _, (Lib.cell_of_heap (heap_alloc_new w _) _).trans rfl, World.frozen?_alloc_at _ _ _ _ rfl, by rw [World.size_alloc]; exact Nat.lt_succ_self _, Nat.le_refl _, by omega⟩
      go_enter Tryd.func71, Tryd.ntmps71
      go_wp2_with fail
      refine (medianAdjacent_at HS.out II w.heap.size _ d w _ HC0.out (by omega) (by omega) (by omega)).mono ?_
      rw [H1.out]
      rintro e w1 ⟨rfl, hc1⟩
      have HC1 := Lib.hid hc1
      clear hc1 HC0
      go_wp2_with fail
      refine (medianAdjacent_at HS.out JJ w.heap.size _ d w _ HC1.out (by omega) (by omega) (by omega)).mono ?_
      rw [H2.out]
      rintro e w2 ⟨rfl, hc2⟩
      have HC2 := Lib.hid hc2
      clear hc2 HC1
      go_wp2_with fail
      refine (medianAdjacent_at HS.out KK w.heap.size _ d w _ HC2.out (by omega) (by omega) (by omega)).mono ?_
      rw [H3.out]
      rintro e w3 ⟨rfl, hc3⟩
      have HC3 := Lib.hid hc3
      clear hc3 HC2
      go_wp2_with fail
      refine (median_at HS.out i1 j1 k1 w.heap.size _ d w _ HC3.out li lj lk (by omega)).mono ?_
      rw [H4.out]
      rintro e w9 ⟨rfl, hc9⟩
      have HC9 := Lib.hid hc9
      have c9 := hc9.cell
      clear hc9 HC3
      go_wp2
      all_goals
        go_ret2
        refine ⟨?_, HC9.out.at_⟩
        first
          | (have e0 : (s : Int) = 0 := of_beq_int (by assumption)
             rw [hh0 (by omega)]; rfl)
          | (have e1 : (s : Int) = 12 := of_beq_int (by assumption)
             rw [hh12 (by omega)]; rfl)
          | (have e0 : (s : Int) ≠ 0 := of_bne_int (by assumption)
             have e1 : (s : Int) ≠ 12 := of_bne_int (by assumption)
             rw [hhx (by omega) (by omega)]; rfl)
          | (rw [hh0 (by omega)]; rfl)
    · obtain ⟨p0, s, h4⟩ : ∃ p0 s, median lt d II JJ KK 0 = (p0, s) := ⟨_, _, rfl⟩
      have hraw : rawPivot lt d a b = (p0, s) := by simp only [rawPivot, if_pos h8, if_neg h50, ← hII, ← hJJ, ← hKK, h4]
      have H4 := Lib.hid h4
      rw [hraw]
      obtain ⟨Hc, hHc⟩ : ∃ Hc : Int, Hc = hintCode (hintOf s) := ⟨_, rfl⟩
      have hh0 : s = 0 → Hc = 1 := fun h => by rw [hHc, h]; rfl
      have hh12 : s = 12 → Hc = 2 := fun h => by rw [hHc, h]; rfl
      have hhx : s ≠ 0 → s ≠ 12 → Hc = 0 := fun h1 h2 => by rw [hHc]; unfold hintOf; rw [if_neg h1, if_neg h2]; rfl
      show Calls Tryd.prog 71 _ w fun e w' => e = .returned (.tuple #[.int .i64 (p0 : Int), .int .i64 (hintCode (hintOf s))]) ∧ At I blk w d w'
      rw [← hHc]
      clear hHc hraw
      have li : II < size := by omega
      have lj : JJ < size := by omega
      have lk : KK < size := by omega
      clear h4 hII hJJ hKK
      have HC0 : Hid (Cn I blk w d w.heap.size 0 (w.alloc (.cells #[.int .i64 0] 3))) := ⟨(At.start HI.out).alloc HS.out _, (Lib.cell_of_heap (heap_alloc_new w _) _).trans rfl, World.frozen?_alloc_at _ _ _ _ rfl, by rw [World.size_alloc]; exact Nat.lt_succ_self _, Nat.le_refl _, by omega⟩
      go_enter Tryd.func71, Tryd.ntmps71
      go_wp2_with fail
      refine (median_at HS.out II JJ KK w.heap.size _ d w _ HC0.out li lj lk (by omega)).mono ?_
      rw [H4.out]
      rintro e w9 ⟨rfl, hc9⟩
      have HC9 := Lib.hid hc9
      have c9 := hc9.cell
      clear hc9 HC0
      go_wp2
      all_goals
        go_ret2
        refine ⟨?_, HC9.out.at_⟩
        first
          | (have e0 : (s : Int) = 0 := of_beq_int (by assumption)
             rw [hh0 (by omega)]; rfl)
          | (have e1 : (s : Int) = 12 := of_beq_int (by assumption)
             rw [hh12 (by omega)]; rfl)
          | (have e0 : (s : Int) ≠ 0 := of_bne_int (by assumption)
             have e1 : (s : Int) ≠ 12 := of_bne_int (by assumption)
             rw [hhx (by omega) (by omega)]; rfl)
          | (rw [hh0 (by omega)]; rfl)
  · obtain ⟨p0, hp⟩ : ∃ p0 : Nat, p0 = JJ := ⟨_, rfl⟩
    obtain ⟨s, hs⟩ : ∃ s : Nat, s = 0 := ⟨_, rfl⟩
    have hraw : rawPivot lt d a b = (p0, s) := by simp only [rawPivot, if_neg h8, ← hJJ, hp, hs]
    rw [hraw]
    obtain ⟨Hc, hHc⟩ : ∃ Hc : Int, Hc = hintCode (hintOf s) := ⟨_, rfl⟩
    have hh0 : s = 0 → Hc = 1 := fun h => by rw [hHc, h]; rfl
    have hh12 : s = 12 → Hc = 2 := fun h => by rw [hHc, h]; rfl
    have hhx : s ≠ 0 → s ≠ 12 → Hc = 0 := fun h1 h2 => by rw [hHc]; unfold hintOf; rw [if_neg h1, if_neg h2]; rfl
    show Calls Tryd.prog 71 _ w fun e w' => e = .returned (.tuple #[.int .i64 (p0 : Int), .int .i64 (hintCode (hintOf s))]) ∧ At I blk w d w'
    rw [← hHc]
    clear hHc hraw
    subst hp
    clear hII hJJ hKK
    have HC9 : Hid (Cn I blk w d w.heap.size 0 (w.alloc (.cells #[.int .i64 0] 3))) := ⟨(At.start HI.out).alloc HS.out _, (Lib.cell_of_heap (heap_alloc_new w _) _).trans rfl, World.frozen?_alloc_at _ _ _ _ rfl, by rw [World.size_alloc]; exact Nat.lt_succ_self _, Nat.le_refl _, by omega⟩
    have c9 : (w.alloc (.cells #[.int .i64 0] 3)).cell? ⟨w.heap.size, 0, none⟩ = some (.int .i64 (s : Int)) := by rw [hs]; exact HC9.out.cell
    go_enter Tryd.func71, Tryd.ntmps71
    go_wp2
    all_goals
      go_ret2
      refine ⟨?_, HC9.out.at_⟩
      first
        | (have e0 : (s : Int) = 0 := of_beq_int (by assumption)
           rw [hh0 (by omega)]; rfl)
        | (have e1 : (s : Int) = 12 := of_beq_int (by assumption)
           rw [hh12 (by omega)]; rfl)
        | (have e0 : (s : Int) ≠ 0 := of_bne_int (by assumption)
           have e1 : (s : Int) ≠ 12 := of_bne_int (by assumption)
           rw [hhx (by omega) (by omega)]; rfl)
        | (rw [hh0 (by omega)]; rfl)

end Go.Proofs.YtbkgbnejmgjiiaaDoor
