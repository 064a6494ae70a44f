/- The law FnShuffledNamesComeToo returns true for texts that a machine can hold, in every world in which the two minifiers lie as their initialisers lay them; what lay in memory stands. -/
import Derived.Test.YtbkgbnejmgjiiaaDoorLTaking
import Derived.Test.YtbkgbnejmgjiiaaDoorWOrd
namespace Go.Proofs.YtbkgbnejmgjiiaaDoor
open Go.RowKit Go.Deep

theorem reads_pair (w : World) (a b : Value) (t : TypeId) : Reads (w.alloc (.cells #[a, b] t)) (w.heap.size + 1) 1 (some ⟨w.heap.size, 0, none⟩) 2 [a, b] := by
  refine ⟨by simp, fun _ => ⟨_, rfl, Nat.lt_succ_self _, fun j u hu => ?_⟩⟩
  have e : (Addr.add ⟨w.heap.size, 0, none⟩ j) = ⟨w.heap.size, j, none⟩ := by
    unfold Addr.add
    by_cases hj : j = 0 <;> simp [hj]
  rw [e, Lib.cell_of_heap (heap_alloc_new w (.cells #[a, b] t))]
  simpa using hu
theorem isNm_ord {C : Nat → Int} {css : Bool} {h t s : List UInt8} (a : Ord C (hdK css) h) (b : Ord C (tlK css) t) (hn : isNm (hdL css) (tlL css) s) : isNm h t s := by
  obtain ⟨c, cs, e, h1, h2⟩ := hn
  refine ⟨c, cs, e, ?_, fun x hx => ?_⟩
  · rw [a.mem, hdK_map]; exact h1
  · rw [b.mem, tlK_map]; exact h2 x hx
theorem hdK_len (css : Bool) : (hdK css).length ≤ 64 := by cases css <;> decide +kernel
theorem tlK_len (css : Bool) : (tlK css).length ≤ 64 := by cases css <;> decide +kernel

set_option maxHeartbeats 4000000 in
set_option maxRecDepth 100000 in
theorem law_shuffled (css : Bool) (A : Option Addr) (n c : Nat) (xs : List (ByteArray × Int)) (s : ByteArray) (w : World) (hg : Glob w) (hx : Reads w w.heap.size 2 A n (txtCells xs)) (hn : n = xs.length) (hn2 : n * 24 ≤ 140737488351232) (hsx : ∀ t ∈ xs, t.1.size ≤ 140737488351232) (hss : s.size ≤ 140737488351232) :
    Calls Tryd.prog 12 #[.bool css, .slice A n c, .string s] w fun e w' => e = .returned (.bool true) ∧ Below w.heap.size w w' := by
  have HG := Lib.hid hg
  have HX := Lib.hid hx
  have HN := Lib.hid hn
  have HSX := Lib.hid hsx
  clear hg hx hn hsx
  go_enter Tryd.func12, Tryd.ntmps12
  go_wp2_with fail
  refine (texts_any A n c xs w HX.out HN.out (by omega)).mono ?_
  rintro e w3 ⟨v3, rfl, ho3, hb3⟩
  obtain ⟨A3, c3, rfl, _, hr3⟩ := own_slice ho3
  have HR3 := Lib.hid hr3
  have HB3 := Lib.hid hb3
  clear ho3 hb3 hr3
  by_cases h8 : 8 < s.size
  · have h8' : (8 : Int) < (s.size : Int) := by omega
    go_wp2_with fail
    refine (wakes_any w3 (HG.out.below HB3.out HG.out.size)).mono ?_
    rintro e w5 ⟨rfl, hb5⟩
    have HB5 := Lib.hid (HB3.out.trans (hb5.mono HB3.out.size))
    clear hb5
    go_wp2
    go_ret
    exact ⟨rfl, HB5.out⟩
  have h8' : ¬ (8 : Int) < (s.size : Int) := by omega
  by_cases hnm : isNm (hdL css) (tlL css) s.data.toList
  · have HNM := Lib.hid hnm
    clear hnm
    go_wp2_with fail
    refine (isname_any s css _ (by unfold maxLen; omega) true (by simpa using HNM.out)).mono ?_
    rintro e w4 ⟨rfl, nd, rfl⟩
    have HB4 := Lib.hid (below_drewN HB3.out nd)
    by_cases hok : areTexts (plainT xs)
    · have HOKT := Lib.hid hok
      clear hok
      go_wp2_with fail
      refine (areTexts_any A3 n c3 xs (w3.drewN nd) (HR3.out.drewN nd) HN.out (by omega) (fun t ht => by have := HSX.out t ht; omega) true (by simpa using HOKT.out)).mono ?_
      rintro e w5 ⟨rfl, hb5⟩
      have HB5 := Lib.hid (HB4.out.trans (hb5.mono HB4.out.size))
      have HR5 := Lib.hid (((HR3.out.drewN nd).below hb5).more hb5.size)
      clear hb5 HB4 HB3 HR3
      go_wp2_with fail
      refine (spCounts_any A3 n c3 xs w5 HR5.out HN.out (by omega) HOKT.out).mono ?_
      rintro e w6 ⟨rfl, hrow, hb6⟩
      have HRW := Lib.hid hrow
      have HB6 := Lib.hid (HB5.out.trans (hb6.mono HB5.out.size))
      clear hrow hb6 HR5
      go_wp2_with fail
      refine (heads_any css _).mono ?_
      rintro e w7 ⟨rfl, rfl⟩
      go_wp2_with fail
      refine (ordered_any (hdK css) (cnt (plainT xs)) (headB css) w5.heap.size w6 (hdK_map css).symm (hdK_lt css) (hdK_up css) (hdK_len css) HRW.out).mono ?_
      rintro e w8 ⟨o1, rfl, oh, n1, rfl⟩
      have HOH := Lib.hid oh
      clear oh
      go_wp2_with fail
      refine (tails_any css _).mono ?_
      rintro e w7 ⟨rfl, rfl⟩
      go_wp2_with fail
      refine (ordered_any (tlK css) (cnt (plainT xs)) (tailB css) w5.heap.size (w6.drewN n1) (tlK_map css).symm (tlK_lt css) (tlK_up css) (tlK_len css) (rowIs_drewN HRW.out n1)).mono ?_
      rintro e w8 ⟨o2, rfl, ot, n2, rfl⟩
      have HOT := Lib.hid ot
      clear ot
      have hl1 : o1.size ≤ 64 := by rw [Lib.size_eq, HOH.out.length]; exact hdK_len css
      have hl2 : o2.size ≤ 64 := by rw [Lib.size_eq, HOT.out.length]; exact tlK_len css
      have HNN := Lib.hid (isNm_ord HOH.out HOT.out HNM.out)
      go_wp2_with fail
      refine (number_any s o1 o2 _ (by omega) hl1 hl2 HNN.out).mono ?_
      rintro e w7 ⟨rfl, rfl⟩
      have hnum := num_small o1.data.toList o2.data.toList (by rw [← Lib.size_eq]; omega) (by rw [← Lib.size_eq]; omega) s.data.toList (by rw [← Lib.size_eq]; omega)
      have HNO := Lib.hid (nameOf_num _ _ _ HNN.out)
      have HB8 := Lib.hid (below_drewN HB6.out (n1 + n2))
      clear HB5 HB6 HRW HNM HNN
      generalize num o1.data.toList o2.data.toList s.data.toList = k at *
      have HP := Lib.hid (reads_pair (w6.drewN (n1 + n2)) (.int .i64 (k : Int)) (.int .i64 (k : Int)) 3)
      have HB9 := Lib.hid (HB8.out.alloc HB8.out.size (.cells #[.int .i64 (k : Int), .int .i64 (k : Int)] 3))
      have HS9 : Hid ((w6.drewN (n1 + n2)).heap.size + 1 ≤ ((w6.drewN (n1 + n2)).alloc (.cells #[.int .i64 (k : Int), .int .i64 (k : Int)] 3)).heap.size) := by rw [World.size_alloc]; exact Nat.le_refl _
      clear HB8
      go_wp2_with fail
      generalize (w6.drewN (n1 + n2)).alloc (.cells #[.int .i64 (k : Int), .int .i64 (k : Int)] 3) = W9 at *
      have HP9 : Hid (Reads W9 W9.heap.size 1 (some ⟨w6.heap.size, 0, none⟩) 2 (intCells (szI [k, k]))) := HP.out.more HS9.out
      clear HP HS9
      refine (shuffled_any css A (some ⟨w6.heap.size, 0, none⟩) n c 2 2 xs [k, k] W9 (HG.out.below HB9.out HG.out.size) ((HX.out.below HB9.out).more HB9.out.size) HN.out (by omega) HOKT.out HP9.out rfl (by omega) (fun x hx => by simp at hx; omega)).mono ?_
      rintro e w10 ⟨v, h2, t2, rfl, oh2, ot2, hown, hb10⟩
      obtain rfl := oh2.uniq HOH.out
      obtain rfl := ot2.uniq HOT.out
      obtain ⟨A7, c7, rfl, _, hr7⟩ := own_slice hown
      have HR7 := Lib.hid hr7
      have HB10 := Lib.hid (HB9.out.trans (hb10.mono HB9.out.size))
      clear hown hr7 hb10 oh2 ot2 HOH HOT HB9 HP9 HOKT
      obtain ⟨b1, f1, rfl, _, s1⟩ := HR7.out.name (k := 0) (by simp) (Below.refl _ w10)
      obtain ⟨b2, f2, e2, _, s2⟩ := HR7.out.name (k := 1) (by simp) (Below.refl _ w10)
      obtain ⟨rfl, rfl⟩ : b1 = b2 ∧ f1 = f2 := by
        injection e2 with e2
        injection e2 with a b
        exact ⟨a, b⟩
      simp only [List.map_cons, List.map_nil, List.getElem_cons_zero, List.getElem_cons_succ, HNO.out, Lib.mk_data, Nat.add_zero] at s1 s2
      clear HNO e2 HR7
      go_wp2_with fail
      refine (wakes_any _ (HG.out.below HB10.out HG.out.size)).mono ?_
      rintro e w11 ⟨rfl, hb11⟩
      have HB11 := Lib.hid (HB10.out.trans (hb11.mono HB10.out.size))
      clear hb11
      go_wp2
      go_ret
      exact ⟨rfl, HB11.out⟩
    · have HOKT := Lib.hid hok
      clear hok
      go_wp2_with fail
      refine (areTexts_any A3 n c3 xs (w3.drewN nd) (HR3.out.drewN nd) HN.out (by omega) (fun t ht => by have := HSX.out t ht; omega) false (by simpa using HOKT.out)).mono ?_
      rintro e w5 ⟨rfl, hb5⟩
      have HB5 := Lib.hid (HB4.out.trans (hb5.mono HB4.out.size))
      clear hb5
      go_wp2_with fail
      refine (wakes_any _ (HG.out.below HB5.out HG.out.size)).mono ?_
      rintro e w6 ⟨rfl, hb6⟩
      have HB6 := Lib.hid (HB5.out.trans (hb6.mono HB5.out.size))
      clear hb6
      go_wp2
      go_ret
      exact ⟨rfl, HB6.out⟩
  · have HNM := Lib.hid hnm
    clear hnm
    go_wp2_with fail
    refine (isname_any s css _ (by unfold maxLen; omega) false (by simpa using HNM.out)).mono ?_
    rintro e w4 ⟨rfl, nd, rfl⟩
    have HB4 := Lib.hid (below_drewN HB3.out nd)
    go_wp2_with fail
    refine (wakes_any _ (HG.out.below HB4.out HG.out.size)).mono ?_
    rintro e w5 ⟨rfl, hb5⟩
    have HB5 := Lib.hid (HB4.out.trans (hb5.mono HB4.out.size))
    clear hb5
    go_wp2
    go_ret
    exact ⟨rfl, HB5.out⟩
end Go.Proofs.YtbkgbnejmgjiiaaDoor
