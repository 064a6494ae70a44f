/- The law FnEveryNameComes returns true, for every string and both kinds, in every world in which the two minifiers lie as their initialisers lay them; what lay in memory stands. -/
import Derived.Test.YtbkgbnejmgjiiaaDoorWName
namespace Go.Proofs.YtbkgbnejmgjiiaaDoor
open Go.RowKit

theorem Glob.drewN {w : World} (h : Glob w) (n : Nat) : Glob (w.drewN n) := ⟨h.size, h.c00, h.c01, h.c10, h.c11⟩
theorem below_drewN {B : Nat} {a w : World} (h : Below B a w) (n : Nat) : Below B a (w.drewN n) := ⟨h.os, h.tape, h.output, h.size, h.block⟩
theorem size_drewN (w : World) (n : Nat) : (w.drewN n).heap.size = w.heap.size := rfl

theorem num_small (hd tl : List UInt8) (h1 : hd.length ≤ 64) (h2 : tl.length ≤ 64) (s : List UInt8) (hs : s.length ≤ 8) : num hd tl s ≤ 4611686018427387903 := by
  cases s with
  | nil => simp [num]
  | cons c cs =>
    have a1 := numT_small tl h2 cs (by simpa using hs)
    have a2 := List.idxOf_le_length (a := c) (l := hd)
    have a3 : numT tl cs * hd.length ≤ 5455160701056 * 64 := Nat.mul_le_mul (by omega) h1
    simp only [num]
    omega

set_option maxHeartbeats 400000 in
theorem law_every (css : Bool) (s : ByteArray) (w : World) (hs : s.size ≤ maxLen) (hg : Glob w) :
    Calls Tryd.prog 3 #[.bool css, .string s] w fun e w' => e = .returned (.bool true) ∧ Below w.heap.size w w' := by
  have a1 := headB_le css
  have a2 := tailB_le css
  by_cases h8 : 8 < s.size
  · unfold maxLen at hs
    go_enter Tryd.func3, Tryd.ntmps3
    go_wp2_with fail
    refine (wakes_any _ hg).mono ?_
    rintro e w1 ⟨rfl, hb1⟩
    have HB1 := Lib.hid hb1
    clear hb1
    go_wp2
    go_ret
    exact ⟨rfl, HB1.out⟩
  · by_cases hn : isNm (hdL css) (tlL css) s.data.toList
    · have HN := Lib.hid hn
      clear hn
      go_enter Tryd.func3, Tryd.ntmps3
      go_wp2_with fail
      refine (isname_any s css _ hs true (by simpa using HN.out)).mono ?_
      rintro e w1 ⟨rfl, n, rfl⟩
      go_wp2_with fail
      refine (heads_any css _).mono ?_
      rintro e w1 ⟨rfl, rfl⟩
      go_wp2_with fail
      refine (tails_any css _).mono ?_
      rintro e w1 ⟨rfl, rfl⟩
      go_wp2_with fail
      refine (number_any s (headB css) (tailB css) _ (by omega) (by omega) (by omega) HN.out).mono ?_
      rintro e w1 ⟨rfl, rfl⟩
      go_wp2_with fail
      refine (name_any css _ _ (hg.drewN n) ?_).mono ?_
      · exact num_small _ _ (by rw [← Lib.size_eq]; omega) (by rw [← Lib.size_eq]; omega) _ (by rw [← Lib.size_eq]; omega)
      rw [nameOf_num _ _ _ HN.out, Lib.mk_data]
      rintro e w1 ⟨rfl, hb1⟩
      have HB1 := Lib.hid hb1
      clear hb1
      go_wp2_with fail
      refine (wakes_any _ ((hg.drewN n).below HB1.out hg.size)).mono ?_
      rintro e w2 ⟨rfl, hb2⟩
      have HB2 := Lib.hid (((below_drewN (Below.refl w.heap.size w) n).trans HB1.out).trans (hb2.mono HB1.out.size))
      clear hb2
      go_wp2
      go_ret
      exact ⟨rfl, HB2.out⟩
    · have HN := Lib.hid hn
      clear hn
      go_enter Tryd.func3, Tryd.ntmps3
      go_wp2_with fail
      refine (isname_any s css _ hs false (by simpa using HN.out)).mono ?_
      rintro e w1 ⟨rfl, n, rfl⟩
      go_wp2_with fail
      refine (wakes_any _ (hg.drewN n)).mono ?_
      rintro e w1 ⟨rfl, hb1⟩
      have HB1 := Lib.hid ((below_drewN (Below.refl w.heap.size w) n).trans hb1)
      clear hb1
      go_wp2
      go_ret
      exact ⟨rfl, HB1.out⟩
end Go.Proofs.YtbkgbnejmgjiiaaDoor
