/- The law FnCountsAddUp returns true for lists of at most 1048576 texts of at most 1048576 bytes each, in every world in which the two minifiers lie as their initialisers lay them; what lay in memory stands. -/
import Derived.Test.YtbkgbnejmgjiiaaDoorWImCounts
import Derived.Test.YtbkgbnejmgjiiaaDoorWAppend
namespace Go.Proofs.YtbkgbnejmgjiiaaDoor
open Go.RowKit Go.Deep

theorem txt_one (ts : List (ByteArray × Int)) : ∀ u ∈ txtCells ts, u.oneCell' = true := by
  intro u hu
  simp only [txtCells, List.mem_flatMap] at hu
  obtain ⟨t, _, hu⟩ := hu
  simp at hu
  rcases hu with rfl | rfl <;> rfl

set_option maxHeartbeats 2000000 in
set_option maxRecDepth 100000 in
theorem law_counts (A B : Option Addr) (n m c d : Nat) (xs ys : List (ByteArray × Int)) (w : World) (hg : Glob w) (hx : Reads w w.heap.size 2 A n (txtCells xs)) (hn : n = xs.length) (hn2 : n ≤ 1048576) (hy : Reads w w.heap.size 2 B m (txtCells ys)) (hm : m = ys.length) (hm2 : m ≤ 1048576) (hsx : ∀ t ∈ xs, t.1.size ≤ 1048576) (hsy : ∀ t ∈ ys, t.1.size ≤ 1048576) :
    Calls Tryd.prog 7 #[.slice A n c, .slice B m d] w fun e w' => e = .returned (.bool true) ∧ Below w.heap.size w w' := by
  have HX := Lib.hid hx
  have HY := Lib.hid hy
  have HN := Lib.hid hn
  have HM := Lib.hid hm
  have HS : Hid (∀ t ∈ xs ++ ys, t.1.size ≤ 9223372036854675807) := fun t ht => by
    rcases List.mem_append.1 ht with h | h
    · have := hsx t h; omega
    · have := hsy t h; omega
  have HL : Hid (n + m = (xs ++ ys).length) := by rw [List.length_append, ← hn, ← hm]; rfl
  clear hx hy hn hm hsx hsy
  obtain ⟨i0, hi, hz0, hz1, hz2⟩ := info_parts info83
  go_enter Tryd.func7, Tryd.ntmps7
  go_wp2_with fail
  refine (texts_any A n c xs _ HX.out HN.out (by omega)).mono ?_
  rintro e w1 ⟨v1, rfl, ho1, hb1⟩
  obtain ⟨A1, c1, rfl, _, hr1⟩ := own_slice ho1
  have HB1 := Lib.hid hb1
  have HR1 := Lib.hid hr1
  clear hb1 ho1 hr1
  go_wp2_with fail
  refine (texts_any B m d ys _ ((HY.out.below HB1.out).more HB1.out.size) HM.out (by omega)).mono ?_
  rintro e w2 ⟨v2, rfl, ho2, hb2⟩
  obtain ⟨A2, c2, rfl, _, hr2⟩ := own_slice ho2
  have HR1b := Lib.hid ((HR1.out.below hb2).more hb2.size)
  have HB2 := Lib.hid (HB1.out.trans (hb2.mono HB1.out.size))
  have HR2 := Lib.hid hr2
  clear hb2 ho2 hr2 HR1
  go_wp2_with (first
    | (at_builtin
       refine wpList_append_any _ rfl (.const (.slice none 0 0)) (.tmp 14) 37 rfl w2.heap.size 83 i0 _ 2 24 Tryd.underlying37 hi hz0 hz1 hz2 rfl (by decide) (.slice none 0 0) 0 [] rfl (World.ownsRow_nil _ _ _ _) w2.heap.size A1 n c1 (txtCells xs) rfl HR1b.out (txt_one xs) (by unfold maxLen; omega) (by omega) (Nat.le_refl _) ?_
       intro v3 w3 ho3 hg3 hat3
       have hbb3 : Below w2.heap.size w2 w3 := (Below.refl _ _).grown hg3 (Nat.le_refl _) (by simp [Value.ownBlock])
       have HBB3 := Lib.hid hbb3
       have HOO3 := Lib.hid ho3
       clear ho3 hg3 hat3 hbb3)
    | (at_builtin
       refine wpList_append_any _ rfl (.tmp 15) (.tmp 16) 37 rfl w2.heap.size 83 i0 _ 2 24 Tryd.underlying37 hi hz0 hz1 hz2 rfl (by decide) v3 (0 + n) ([] ++ txtCells xs) rfl HOO3.out w2.heap.size A2 m c2 (txtCells ys) rfl (HR2.out.below HBB3.out) (txt_one ys) (by unfold maxLen; omega) (by omega) HBB3.out.size ?_
       intro v4 w4 ho4 hg4 hat4
       have hbb4 : Below w2.heap.size w2 w4 := HBB3.out.grown hg4 HBB3.out.size (fun g hgg => (HOO3.out.lt g hgg).1)
       have hoo4 : w4.ownsRow w2.heap.size 83 2 v4 (n + m) (txtCells (xs ++ ys)) := (by rw [txtCells_append]; simpa using ho4)
       have HBB4 := Lib.hid hbb4
       have HOO4 := Lib.hid hoo4
       clear ho4 hg4 hat4 hbb4 hoo4 HOO3))
  obtain ⟨A4, c4, hv4, _, hr4⟩ := own_slice HOO4.out
  subst hv4
  have HB4 := Lib.hid (HB2.out.trans (HBB4.out.mono HB2.out.size))
  by_cases hok : areTexts (plainT (xs ++ ys))
  · have HOK := Lib.hid hok
    clear hok
    refine (areTexts_any A4 (n + m) c4 (xs ++ ys) _ hr4 HL.out (by omega) HS.out true (by simpa using HOK.out)).mono ?_
    rintro e w5 ⟨rfl, hb5⟩
    have HB5 := Lib.hid (HB4.out.trans (hb5.mono HB4.out.size))
    have HW5 := Lib.hid (HBB4.out.trans (hb5.mono HBB4.out.size))
    clear hb5 hr4 HOO4
    go_wp2_with fail
    refine (imCounts_any A B n m c d xs ys _ ((HX.out.below HB5.out).more HB5.out.size) HN.out (by omega) ((HY.out.below HB5.out).more HB5.out.size) HM.out (by omega) HOK.out).mono ?_
    rintro e w6 ⟨v6, rfl, ho6, hb6⟩
    obtain ⟨A6, c6, rfl, _, hr6⟩ := own_slice ho6
    have HB6 := Lib.hid (HB5.out.trans (hb6.mono HB5.out.size))
    have HW6 := Lib.hid (HW5.out.trans (hb6.mono HW5.out.size))
    have HR6 := Lib.hid hr6
    have HRA := Lib.hid ((HR1b.out.below HW6.out).more HW6.out.size)
    have HRB := Lib.hid ((HR2.out.below HW6.out).more HW6.out.size)
    clear hb6 ho6 hr6 HB4 HB5 HW5
    go_wp2_with (first
      | (at_builtin
         refine wpList_append_any _ rfl (.const (.slice none 0 0)) (.tmp 24) 37 rfl w6.heap.size 83 i0 _ 2 24 Tryd.underlying37 hi hz0 hz1 hz2 rfl (by decide) (.slice none 0 0) 0 [] rfl (World.ownsRow_nil _ _ _ _) w6.heap.size A1 n c1 (txtCells xs) rfl HRA.out (txt_one xs) (by unfold maxLen; omega) (by omega) (Nat.le_refl _) ?_
         intro v7 w7 ho7 hg7 hat7
         have hbb7 : Below w6.heap.size w6 w7 := (Below.refl _ _).grown hg7 (Nat.le_refl _) (by simp [Value.ownBlock])
         have HBB7 := Lib.hid hbb7
         have HOO7 := Lib.hid ho7
         clear ho7 hg7 hat7 hbb7)
      | (at_builtin
         refine wpList_append_any _ rfl (.tmp 25) (.tmp 26) 37 rfl w6.heap.size 83 i0 _ 2 24 Tryd.underlying37 hi hz0 hz1 hz2 rfl (by decide) v7 (0 + n) ([] ++ txtCells xs) rfl HOO7.out w6.heap.size A2 m c2 (txtCells ys) rfl (HRB.out.below HBB7.out) (txt_one ys) (by unfold maxLen; omega) (by omega) HBB7.out.size ?_
         intro v8 w8 ho8 hg8 hat8
         have hbb8 : Below w6.heap.size w6 w8 := HBB7.out.grown hg8 HBB7.out.size (fun g hgg => (HOO7.out.lt g hgg).1)
         have hoo8 : w8.ownsRow w6.heap.size 83 2 v8 (n + m) (txtCells (xs ++ ys)) := (by rw [txtCells_append]; simpa using ho8)
         have HBB8 := Lib.hid hbb8
         have HOO8 := Lib.hid hoo8
         clear ho8 hg8 hat8 hbb8 hoo8 HOO7))

    obtain ⟨A8, c8, hv8, _, hr8⟩ := own_slice HOO8.out
    subst hv8
    have HB8 := Lib.hid (HB6.out.trans (HBB8.out.mono HB6.out.size))
    refine (spCounts_any A8 (n + m) c8 (xs ++ ys) _ hr8 HL.out (by omega) HOK.out).mono ?_
    rintro e w9 ⟨rfl, hrow9, hb9⟩
    have HB9 := Lib.hid (HB8.out.trans (hb9.mono HB8.out.size))
    have HROW := Lib.hid hrow9
    have HG9 := Lib.hid ((HR6.out.below (HBB8.out.trans (hb9.mono HBB8.out.size))))
    clear hrow9 hb9 hr8 HOO8
    obtain ⟨b6, off6, rfl, hb6B, hcell6⟩ := HG9.out.at_ (by simp [cntCells])
    have HC6 : Hid (∀ k, k < 64 → w9.cell? ⟨b6, off6 + k, none⟩ = some (.int .i64 (cnt (plainT (xs ++ ys)) k))) := fun k hk => hcell6 k _ (by simp [cntCells, hk])
    clear hcell6
    go_wp2_with fail
    go_loopw [36] (fun x wr => ∃ k : Nat, k ≤ 64 ∧ x = .int .i64 k ∧ ∃ nd, wr = w9.drewN nd) (fun x _ => 64 - (intOf x).toNat)
    case atStart => exact ⟨0, by omega, rfl, 0, rfl⟩
    case round =>
      obtain ⟨k, hk, rfl, nd, rfl⟩ := hrel
      by_cases hlt : k < 64
      · have cx := HC6.out k hlt
        have cy := HROW.out.cell hlt
        have hki : (0 : Int) ≤ (k : Int) ∧ (k : Int) < 64 := by omega
        generalize cnt (plainT (xs ++ ys)) k = G at *
        go_wp2
        go_quiet (fail)
        go_wp2
        go_roundw
        case rel => exact ⟨k + 1, by omega, by go_num, nd + nq, rfl⟩
        case measure => simp [intOf]; omega
      · go_wp2_with fail
        refine (wakes_any _ ((hg.below HB9.out hg.size).drewN nd)).mono ?_
        rintro e w10 ⟨rfl, hb10⟩
        have HB10 := Lib.hid ((below_drewN HB9.out nd).trans (hb10.mono HB9.out.size))
        clear hb10
        go_wp2
        go_ret
        exact ⟨rfl, HB10.out⟩
  · have HOK := Lib.hid hok
    clear hok
    refine (areTexts_any A4 (n + m) c4 (xs ++ ys) _ hr4 HL.out (by omega) HS.out false (by simpa using HOK.out)).mono ?_
    rintro e w5 ⟨rfl, hb5⟩
    have HB5 := Lib.hid (HB4.out.trans (hb5.mono HB4.out.size))
    clear hb5 hr4 HOO4
    go_wp2_with fail
    refine (wakes_any _ (hg.below HB5.out hg.size)).mono ?_
    rintro e w6 ⟨rfl, hb6⟩
    have HB6 := Lib.hid (HB5.out.trans (hb6.mono HB5.out.size))
    clear hb6
    go_wp2
    go_ret
    exact ⟨rfl, HB6.out⟩
end Go.Proofs.YtbkgbnejmgjiiaaDoor
