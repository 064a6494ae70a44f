/- The law FnNamesAreNames returns true, for all integers and both kinds, in every world in which the two minifiers lie as their initialisers lay them; what lay in memory stands. -/
import Derived.Test.YtbkgbnejmgjiiaaDoorLEvery
namespace Go.Proofs.YtbkgbnejmgjiiaaDoor
open Go.RowKit

theorem hdL_nodup (css : Bool) : (hdL css).Nodup := by cases css <;> decide
theorem tlL_nodup (css : Bool) : (tlL css).Nodup := by cases css <;> decide
theorem hdL_pos (css : Bool) : 0 < (hdL css).length := by cases css <;> decide
theorem tlL_pos (css : Bool) : 0 < (tlL css).length := by cases css <;> decide
theorem restN_len (tl : List UInt8) : ∀ (f n : Nat), n ≤ f → (restN tl f n).length ≤ n := by
  intro f
  induction f with
  | zero => intro n _; simp [restN]
  | succ f ih =>
    intro n hn
    simp only [restN]
    split
    · simp
    · have h1 : (n - 1) / tl.length ≤ n - 1 := Nat.div_le_self _ _
      have := ih ((n - 1) / tl.length) (by omega)
      simp only [List.length_cons]; omega
theorem nameOf_len (hd tl : List UInt8) (i : Nat) : (nameOf hd tl i).length ≤ i + 1 := by
  unfold nameOf
  have := restN_len tl (i / hd.length) (i / hd.length) (Nat.le_refl _)
  have h1 : i / hd.length ≤ i := Nat.div_le_self _ _
  simp only [List.length_cons]; omega

set_option maxHeartbeats 400000 in
theorem law_names_out (css : Bool) (i j : Int) (w : World) (hg : Glob w) (h : i < 0 ∨ j < 0 ∨ 35184372088832 < i ∨ 35184372088832 < j) :
    Calls Tryd.prog 4 #[.bool css, .int .i64 i, .int .i64 j] w fun e w' => e = .returned (.bool true) ∧ Below w.heap.size w w' := by
  by_cases h1 : i < 0
  · clear h
    go_enter Tryd.func4, Tryd.ntmps4
    go_wp2_with fail
    refine (wakes_any _ hg).mono ?_
    rintro e w1 ⟨rfl, hb1⟩
    have HB1 := Lib.hid hb1
    clear hb1
    go_wp2
    go_ret
    exact ⟨rfl, HB1.out⟩
  · by_cases h2 : j < 0
    · clear h
      go_enter Tryd.func4, Tryd.ntmps4
      go_wp2_with fail
      refine (wakes_any _ hg).mono ?_
      rintro e w1 ⟨rfl, hb1⟩
      have HB1 := Lib.hid hb1
      clear hb1
      go_wp2
      go_ret
      exact ⟨rfl, HB1.out⟩
    · by_cases h3 : 35184372088832 < i
      · clear h
        go_enter Tryd.func4, Tryd.ntmps4
        go_wp2_with fail
        refine (wakes_any _ hg).mono ?_
        rintro e w1 ⟨rfl, hb1⟩
        have HB1 := Lib.hid hb1
        clear hb1
        go_wp2
        go_ret
        exact ⟨rfl, HB1.out⟩
      · have h4 : 35184372088832 < j := by omega
        clear h
        go_enter Tryd.func4, Tryd.ntmps4
        go_wp2_with fail
        refine (wakes_any _ hg).mono ?_
        rintro e w1 ⟨rfl, hb1⟩
        have HB1 := Lib.hid hb1
        clear hb1
        go_wp2
        go_ret
        exact ⟨rfl, HB1.out⟩

set_option maxHeartbeats 400000 in
theorem law_names_in (css : Bool) (i j : Nat) (w : World) (hg : Glob w) (hi : i ≤ 35184372088832) (hj : j ≤ 35184372088832) :
    Calls Tryd.prog 4 #[.bool css, .int .i64 i, .int .i64 j] w fun e w' => e = .returned (.bool true) ∧ Below w.heap.size w w' := by
  have la := nameOf_len (hdL css) (tlL css) i
  have lb := nameOf_len (hdL css) (tlL css) j
  have HA := Lib.hid (isNm_nameOf (hdL css) (tlL css) (hdL_pos css) (tlL_pos css) i)
  have HB := Lib.hid (isNm_nameOf (hdL css) (tlL css) (hdL_pos css) (tlL_pos css) j)
  go_enter Tryd.func4, Tryd.ntmps4
  go_wp2_with fail
  refine (name_any css i _ hg (by omega)).mono ?_
  rintro e w1 ⟨rfl, hb1⟩
  have HB1 := Lib.hid hb1
  clear hb1
  go_wp2_with fail
  refine (name_any css j _ (hg.below HB1.out hg.size) (by omega)).mono ?_
  rintro e w2 ⟨rfl, hb2⟩
  have HB2 := Lib.hid (HB1.out.trans (hb2.mono HB1.out.size))
  clear hb2 HB1
  have HE : Hid ((nameOf (hdL css) (tlL css) i == nameOf (hdL css) (tlL css) j) = ((i : Int) == (j : Int))) := by
    by_cases h : i = j
    · subst h; simp [Hid]
    · have hne : nameOf (hdL css) (tlL css) i ≠ nameOf (hdL css) (tlL css) j := fun e => h (nameOf_inj _ _ (hdL_nodup css) (tlL_nodup css) (hdL_pos css) (tlL_pos css) e)
      have e1 : (nameOf (hdL css) (tlL css) i == nameOf (hdL css) (tlL css) j) = false := beq_eq_false_iff_ne.2 hne
      have e2 : ((i : Int) == (j : Int)) = false := beq_eq_false_iff_ne.2 (by omega)
      show _ = _
      rw [e1, e2]
  have HLE : Hid (i ≤ j → (nameOf (hdL css) (tlL css) i).length ≤ (nameOf (hdL css) (tlL css) j).length) := fun h => nameOf_mono _ _ h
  generalize nameOf (hdL css) (tlL css) i = na at *
  generalize nameOf (hdL css) (tlL css) j = nb at *
  go_wp2_with fail
  refine (isname_any ⟨na.toArray⟩ css _ (by rw [Lib.size_eq]; simp [maxLen]; omega) true (by simpa using HA.out)).mono ?_
  rintro e w3 ⟨rfl, n3, rfl⟩
  go_wp2_with fail
  refine (isname_any ⟨nb.toArray⟩ css _ (by rw [Lib.size_eq]; simp [maxLen]; omega) true (by simpa using HB.out)).mono ?_
  rintro e w4 ⟨rfl, n4, rfl⟩
  go_wp2_with fail
  all_goals first
    | exact absurd HE.out ‹_›
    | exact absurd (Or.inr (HLE.out ‹i ≤ j›)) ‹_›
    | skip
  all_goals
    have HBB : Hid ((decide (j < i) || decide (na.length ≤ nb.length)) = true) := by
      show _ = true
      rw [Bool.or_eq_true, decide_eq_true_iff, decide_eq_true_iff]
      rcases Nat.lt_or_ge j i with h | h
      · exact .inl h
      · exact .inr (HLE.out h)
    refine (wakes_any _ ((hg.below HB2.out hg.size).drewN _)).mono ?_
    rintro e w5 ⟨rfl, hb5⟩
    have HB5 := Lib.hid ((below_drewN HB2.out _).trans (hb5.mono HB2.out.size))
    clear hb5
    go_wp2
    go_ret
    exact ⟨by first | rfl | exact congrArg (fun b => Ending.returned (Value.bool b)) HBB.out, HB5.out⟩

theorem law_names (css : Bool) (i j : Int) (w : World) (hg : Glob w) :
    Calls Tryd.prog 4 #[.bool css, .int .i64 i, .int .i64 j] w fun e w' => e = .returned (.bool true) ∧ Below w.heap.size w w' := by
  by_cases h : i < 0 ∨ j < 0 ∨ 35184372088832 < i ∨ 35184372088832 < j
  · exact law_names_out css i j w hg h
  · obtain ⟨a, rfl⟩ := Int.eq_ofNat_of_zero_le (show 0 ≤ i by omega)
    obtain ⟨b, rfl⟩ := Int.eq_ofNat_of_zero_le (show 0 ≤ j by omega)
    exact law_names_in css a b w hg (by omega) (by omega)
end Go.Proofs.YtbkgbnejmgjiiaaDoor
