/- The law FnTakingBackIsNothing returns true for texts that a machine can hold, in every world in which the two minifiers lie as their initialisers lay them; what lay in memory stands. -/
import Derived.Test.YtbkgbnejmgjiiaaDoorLNothing
import Derived.Test.YtbkgbnejmgjiiaaDoorLCounts
namespace Go.Proofs.YtbkgbnejmgjiiaaDoor
open Go.RowKit Go.Deep

theorem info65 : (Tryd.prog.info? 65).map (fun i => (i.zero, i.size, i.bytes)) = some (some (.agg #[.string ⟨#[]⟩, .int .i64 0]), 2, 24) := by kernel_rfl
theorem areTexts_left {a b : List (ByteArray × Int)} (h : areTexts (plainT (a ++ b))) : areTexts (plainT a) := by
  have e : plainT (a ++ b) = plainT a ++ plainT b := by simp [plainT]
  rw [e] at h
  refine ⟨fun t ht => h.1 t (List.mem_append_left _ ht), ?_⟩
  have := h.2
  rw [long_append] at this
  omega
theorem cnt_back (xs : List (ByteArray × Int)) (s : ByteArray) (t : Int) (j : Nat) : cnt (plainT (xs ++ [(s, t), (s, -t)])) j = cnt (plainT xs) j := by
  have e : plainT (xs ++ [(s, t), (s, -t)]) = plainT xs ++ [(s.data.toList, t), (s.data.toList, -t)] := by simp [plainT]
  rw [e, cnt_append]
  simp only [cnt]
  rw [Int.neg_mul]
  omega

theorem reads_two (w : World) (a b c d : Value) (t : TypeId) : Reads (w.alloc (.cells #[a, b, c, d] t)) (w.heap.size + 1) 2 (some ⟨w.heap.size, 0, none⟩) 2 [a, b, c, d] := by
  refine ⟨by simp, fun _ => ⟨_, rfl, Nat.lt_succ_self _, fun j u hu => ?_⟩⟩
  have e : (Addr.add ⟨w.heap.size, 0, none⟩ j) = ⟨w.heap.size, j, none⟩ := by
    unfold Addr.add
    by_cases hj : j = 0 <;> simp [hj]
  rw [e, Lib.cell_of_heap (heap_alloc_new w (.cells #[a, b, c, d] t))]
  simpa using hu
theorem names_same {C D : Nat → Int} {css : Bool} {h h' t t' : List UInt8} (he : ∀ j, C j = D j) (a : Ord C (hdK css) h) (b : Ord D (hdK css) h') (c : Ord C (tlK css) t) (d : Ord D (tlK css) t') : h = h' ∧ t = t' :=
  ⟨(a.congr fun i _ => he i).uniq b, (c.congr fun i _ => he i).uniq d⟩

set_option maxHeartbeats 4000000 in
set_option maxRecDepth 100000 in
theorem law_taking (A Nn : Option Addr) (n c q cq : Nat) (xs : List (ByteArray × Int)) (s : ByteArray) (times : Int) (l : List Int) (w : World) (hg : Glob w) (hx : Reads w w.heap.size 2 A n (txtCells xs)) (hn : n = xs.length) (hn2 : n * 24 ≤ 140737488351232) (hsx : ∀ t ∈ xs, t.1.size ≤ 140737488351232) (hss : s.size ≤ 140737488351232)
    (hr : Reads w w.heap.size 1 Nn q (intCells l)) (hq : q = l.length) (hqq : q ≤ 9223372036854775807) :
    Calls Tryd.prog 13 #[.slice A n c, .string s, .int .i64 times, .slice Nn q cq] w fun e w' => e = .returned (.bool true) ∧ Below w.heap.size w w' := by
  have HG := Lib.hid hg
  have HX := Lib.hid hx
  have HN := Lib.hid hn
  have HR := Lib.hid hr
  have HQ := Lib.hid hq
  have HSX := Lib.hid hsx
  clear hg hx hn hr hq hsx
  obtain ⟨T2, hT2⟩ : ∃ T2, wrap64 (-times) = T2 := ⟨_, rfl⟩
  have HT2 := Lib.hid hT2
  obtain ⟨i0, hi, hz0, hz1, hz2⟩ := info_parts info65
  go_enter Tryd.func13, Tryd.ntmps13
  go_wp2_with (at_builtin; refine wpList_append_any _ rfl (.const (.slice none 0 0)) (.tmp 15) 36 rfl w.heap.size 65 i0 _ 2 24 Tryd.underlying36 hi hz0 hz1 hz2 rfl (by decide) (.slice none 0 0) 0 [] rfl (World.ownsRow_nil _ _ _ _) w.heap.size A n c (txtCells xs) rfl HX.out (txt_one xs) (by unfold maxLen; omega) (by omega) (Nat.le_refl _) ?_)
  intro v1 w1 ho1 hg1 _
  have hbb1 : Below w.heap.size w w1 := (Below.refl _ _).grown hg1 (Nat.le_refl _) (by simp [Value.ownBlock])
  have ho1' : w1.ownsRow w.heap.size 65 2 v1 n (txtCells xs) := by simpa using ho1
  have HO1 := Lib.hid (ho1'.alloc (.cells #[.string s, .int .i64 times, .string s, .int .i64 T2] 65))
  have HB1 := Lib.hid (hbb1.alloc hbb1.size (.cells #[.string s, .int .i64 times, .string s, .int .i64 T2] 65))
  clear ho1 hg1 ho1' hbb1
  have HD1 := Lib.hid (reads_two w1 (.string s) (.int .i64 times) (.string s) (.int .i64 T2) 65)
  have hs1 : w.heap.size ≤ (w1.alloc (.cells #[.string s, .int .i64 times, .string s, .int .i64 T2] 65)).heap.size := HB1.out.size
  go_wp2_with (at_builtin; refine wpList_append_any _ rfl (.tmp 16) (.tmp 24) 36 rfl w.heap.size 65 i0 _ 2 24 Tryd.underlying36 hi hz0 hz1 hz2 rfl (by decide) v1 n (txtCells xs) rfl HO1.out (w1.heap.size + 1) (some ⟨w1.heap.size, 0, none⟩) 2 2 [.string s, .int .i64 times, .string s, .int .i64 T2] rfl HD1.out ?c2 ?c3 ?c4 ?c5 ?_)
  case c2 => first | exact ⟨rfl, rfl, rfl, rfl⟩ | (intro u hu; simp at hu; rcases hu with rfl | rfl | rfl | rfl <;> rfl) | simp [Value.oneCell']
  case c3 => unfold maxLen; omega
  case c4 => omega
  case c5 => first | exact hs1 | omega
  intro v2 w2 ho2 hg2 _
  have hbb2 := HB1.out.grown hg2 HB1.out.size (fun g hgg => (HO1.out.lt g hgg).1)
  have ho2' : w2.ownsRow w.heap.size 65 2 v2 (n + 2) (txtCells (xs ++ [(s, times), (s, T2)])) := by rw [txtCells_append]; exact ho2
  have HB2 := Lib.hid hbb2
  obtain ⟨A2, c2, rfl, _, hr2⟩ := own_slice ho2'
  have HR2 := Lib.hid hr2
  clear ho2 hg2 hbb2 ho2' hr2 HO1 HB1 HD1 hs1
  have HNL : Hid (n + 2 = (xs ++ [(s, times), (s, T2)]).length) := by rw [List.length_append, ← HN.out]; exact rfl
  have HSM : Hid (∀ t ∈ xs ++ [(s, times), (s, T2)], t.1.size ≤ 9223372036854675807) := fun t ht => by
    rcases List.mem_append.1 ht with h | h
    · have := HSX.out t h; omega
    · simp at h
      rcases h with rfl | rfl <;> (show s.size ≤ _; omega)
  go_wp2_with fail
  refine (texts_any A2 (n + 2) c2 (xs ++ [(s, times), (s, T2)]) w2 HR2.out HNL.out (by omega)).mono ?_
  rintro e w3 ⟨v3, rfl, ho3, hb3⟩
  obtain ⟨A3, c3, rfl, _, hr3⟩ := own_slice ho3
  have HR3 := Lib.hid hr3
  have HB3 := Lib.hid (HB2.out.trans (hb3.mono HB2.out.size))
  have HR2b := Lib.hid ((HR2.out.below hb3).more hb3.size)
  clear ho3 hb3 hr3 HB2 HR2
  go_wp2_with fail
  by_cases hok : areTexts (plainT (xs ++ [(s, times), (s, T2)]))
  · have HOKT := Lib.hid hok
    have htm := hok.1 (s.data.toList, times) (by simp [plainT])
    simp only at htm
    have hneg : T2 = -times := by rw [← hT2]; unfold wrap64; omega
    clear hok
    refine (areTexts_any A3 (n + 2) c3 (xs ++ [(s, times), (s, T2)]) w3 HR3.out HNL.out (by omega) HSM.out true (by simpa using HOKT.out)).mono ?_
    rintro e w4 ⟨rfl, hb4⟩
    have HB4 := Lib.hid (HB3.out.trans (hb4.mono HB3.out.size))
    have HRM := Lib.hid ((HR2b.out.below hb4).more hb4.size)
    have HRL := Lib.hid ((HR.out.below HB4.out).more HB4.out.size)
    have HGW := Lib.hid (HG.out.below HB4.out HG.out.size)
    have HEQ : Hid (∀ j, cnt (plainT (xs ++ [(s, times), (s, T2)])) j = cnt (plainT xs) j) := fun j => by rw [hneg]; exact cnt_back xs s times j
    clear hb4 HB3 HR3 HR2b HR hneg htm hT2 HT2 HSM HSX
    by_cases hq1 : 1000 < q
    · have hqz : (1000 : Int) < (q : Int) := by omega
      go_wp2_with fail
      refine (wakes_any w4 HGW.out).mono ?_
      rintro e w5 ⟨rfl, hb5⟩
      have HB5 := Lib.hid (HB4.out.trans (hb5.mono HB4.out.size))
      clear hb5
      go_wp2
      go_ret
      exact ⟨rfl, HB5.out⟩
    have hqz : ¬ (1000 : Int) < (q : Int) := by omega
    go_wp2_with fail
    go_loopw [38] (fun x wr => ∃ k : Nat, k ≤ q ∧ x = .int .i64 k ∧ wr = w4 ∧ Hid (okNums (l.take k))) (fun x _ => q - (intOf x).toNat)
    case atStart => exact ⟨0, by omega, rfl, rfl, fun x hx => by simp at hx⟩
    case round =>
      obtain ⟨k, hk, rfl, rfl, HOK⟩ := hrel
      by_cases hlt : k < q
      · have hk2 : k < l.length := by rw [← HQ.out]; exact hlt
        obtain ⟨b, off, rfl, _, c0⟩ := HRL.out.int hk2 (Below.refl _ _)
        have HMT : Hid (∀ y ∈ l.take (k + 1), y ∈ l.take k ∨ y = l[k]) := fun y hy => mem_take_succ hk2 hy
        generalize l[k] = x at *
        have HW := Lib.hid (wakes_any wr HGW.out)
        by_cases hx1 : x < 0
        · go_wp2_with fail
          refine HW.out.mono ?_
          rintro e w5 ⟨rfl, hb5⟩
          have HB5 := Lib.hid (HB4.out.trans (hb5.mono HB4.out.size))
          clear hb5
          go_wp2
          go_ret
          exact ⟨rfl, HB5.out⟩
        · by_cases hx2 : 35184372088832 < x
          · go_wp2_with fail
            refine HW.out.mono ?_
            rintro e w5 ⟨rfl, hb5⟩
            have HB5 := Lib.hid (HB4.out.trans (hb5.mono HB4.out.size))
            clear hb5
            go_wp2
            go_ret
            exact ⟨rfl, HB5.out⟩
          · have HO2 : Hid (okNums (l.take (k + 1))) := fun y hy => by
              rcases HMT.out y hy with h | h
              · exact HOK.out y h
              · subst h; omega
            go_wp2
            go_roundw
            case rel => exact ⟨k + 1, by omega, by go_num, by trivial, HO2.out⟩
            case measure => simp [intOf]; omega
      · have hkq : k = q := by omega
        subst hkq
        have hall : l.take k = l := by rw [HQ.out]; exact List.take_length
        rw [hall] at HOK
        obtain ⟨ns, hl, hns⟩ := nums_of HOK.out
        subst hl
        have HNS : Hid (∀ x ∈ ns, x ≤ 4611686018427387903) := fun x hx => Nat.le_trans (hns x hx) (by omega)
        have HQ2 : Hid (k = ns.length) := HQ.out.trans (szI_length ns)
        clear hall HOK hns hlt hk
        go_wp2_with fail
        refine (shuffled_any false A Nn n c k cq xs ns wr HGW.out ((HX.out.below HB4.out).more HB4.out.size) HN.out (by omega) (areTexts_left HOKT.out) HRL.out HQ2.out (by omega) HNS.out).mono ?_
        rintro e w6 ⟨v6, h1, t1, rfl, oh1, ot1, hown1, hb6⟩
        obtain ⟨A6, c6, rfl, _, hr6⟩ := own_slice hown1
        have HR6 := Lib.hid hr6
        have HB6 := Lib.hid (HB4.out.trans (hb6.mono HB4.out.size))
        have HRM6 := Lib.hid ((HRM.out.below hb6).more hb6.size)
        have HRL6 := Lib.hid ((HRL.out.below hb6).more hb6.size)
        have HG6 := Lib.hid (HGW.out.below hb6 (Nat.le_trans HG.out.size HB4.out.size))
        have HOH1 := Lib.hid oh1
        have HOT1 := Lib.hid ot1
        clear hown1 hr6 hb6 oh1 ot1 HRM HRL HGW HB4
        go_wp2_with fail
        refine (shuffled_any false A2 Nn (n + 2) c2 k cq (xs ++ [(s, times), (s, T2)]) ns w6 HG6.out HRM6.out HNL.out (by omega) HOKT.out HRL6.out HQ2.out (by omega) HNS.out).mono ?_
        rintro e w7 ⟨v7, h2, t2, rfl, oh2, ot2, hown2, hb7⟩
        obtain ⟨rfl, rfl⟩ := names_same HEQ.out oh2 HOH1.out ot2 HOT1.out
        obtain ⟨A7, c7, rfl, _, hr7⟩ := own_slice hown2
        have HR7 := Lib.hid hr7
        have HB7 := Lib.hid (HB6.out.trans (hb7.mono HB6.out.size))
        have HR6b := Lib.hid ((HR6.out.below hb7).more hb7.size)
        clear hown2 hr7 hb7 oh2 ot2 HRM6 HRL6 HG6 HB6 HR6 HOH1 HOT1 HEQ HOKT
        go_wp2_with fail
        go_loopw [70] (fun x wr2 => ∃ j : Nat, j ≤ k ∧ x = .int .i64 j ∧ ∃ nd, wr2 = w7.drewN nd) (fun x _ => k - (intOf x).toNat)
        case atStart => exact ⟨0, by omega, rfl, 0, rfl⟩
        case round =>
          obtain ⟨j, hj, rfl, nd, rfl⟩ := hrel
          by_cases hlt : j < k
          · have hj2 : j < ns.length := by rw [← HQ2.out]; exact hlt
            obtain ⟨b1, o1, rfl, _, s1⟩ := HR6b.out.name (k := j) (by simpa using hj2) (Below.refl _ w7)
            obtain ⟨b2, o2, rfl, _, s2⟩ := HR7.out.name (k := j) (by simpa using hj2) (Below.refl _ w7)
            simp only [List.getElem_map] at s1 s2
            generalize nameOf h2 t2 ns[j] = nm at *
            go_upto_region 16 with fail
            go_quiet (fail)
            go_wp2
            go_roundw
            case rel => exact ⟨j + 1, by omega, by go_num, nd + nq, rfl⟩
            case measure => simp [intOf]; omega
          · go_wp2_with fail
            refine (wakes_any _ ((HG.out.below HB7.out HG.out.size).drewN nd)).mono ?_
            rintro e w9 ⟨rfl, hb9⟩
            have HB9 := Lib.hid ((below_drewN HB7.out nd).trans (hb9.mono HB7.out.size))
            clear hb9
            go_wp2
            go_ret
            exact ⟨rfl, HB9.out⟩
  · have HOKT := Lib.hid hok
    clear hok
    refine (areTexts_any A3 (n + 2) c3 (xs ++ [(s, times), (s, T2)]) w3 HR3.out HNL.out (by omega) HSM.out false (by simpa using HOKT.out)).mono ?_
    rintro e w4 ⟨rfl, hb4⟩
    have HB4 := Lib.hid (HB3.out.trans (hb4.mono HB3.out.size))
    clear hb4
    go_wp2_with fail
    refine (wakes_any w4 (HG.out.below HB4.out HG.out.size)).mono ?_
    rintro e w5 ⟨rfl, hb5⟩
    have HB5 := Lib.hid (HB4.out.trans (hb5.mono HB4.out.size))
    clear hb5
    go_wp2
    go_ret
    exact ⟨rfl, HB5.out⟩
end Go.Proofs.YtbkgbnejmgjiiaaDoor
