/- The law FnNothingCountedIsTheSame returns true in every world in which the two minifiers lie as their initialisers lay them; what lay in memory stands. -/
import Derived.Test.YtbkgbnejmgjiiaaDoorWShuffled
import Derived.Test.YtbkgbnejmgjiiaaDoorFrame
import Derived.Lib.QuietBelow
namespace Go.Proofs.YtbkgbnejmgjiiaaDoor
open Go.RowKit Go.Deep

theorem Reads.name {w wr : World} {B n k : Nat} {A : Option Addr} {l : List (List UInt8)} (h : Reads w B 1 A n (nmCells l)) (hk : k < l.length) (hb : Below B w wr) : ∃ b off, A = some ⟨b, off, none⟩ ∧ b < B ∧ wr.cell? ⟨b, off + k, none⟩ = some (.string ⟨l[k].toArray⟩) := by
  obtain ⟨b, off, e, hbB, hcell⟩ := h.at_ (by rw [nmCells_length]; omega)
  exact ⟨b, off, e, hbB, (hb.cell (p := ⟨b, _, none⟩) hbB).trans (hcell _ _ (nmCells_at l k hk))⟩
theorem occ_signs (j : Nat) (hj : j < 64) : occ (tailB false).data.toList j = 1 := by
  have h : ∀ i : Fin 64, occ (tailB false).data.toList i = 1 := by decide +kernel
  exact h ⟨j, hj⟩
/-- numbers that names are asked of -/
def okNums (l : List Int) : Prop := ∀ x ∈ l, 0 ≤ x ∧ x ≤ 35184372088832
theorem nums_of {l : List Int} (h : okNums l) : ∃ ns, l = szI ns ∧ ∀ x ∈ ns, x ≤ 35184372088832 := by
  refine ⟨natsOf l, natsOf_back (fun x hx => (h x hx).1), fun x hx => ?_⟩
  obtain ⟨y, hy, rfl⟩ := List.mem_map.1 hx
  have := h y hy
  omega
theorem ord_tl {C : Nat → Int} (css : Bool) {r : List UInt8} (h : Ord C (tlK css) r) (hc : ∀ i j, i < 64 → j < 64 → C i = C j) : r = tlL css := by
  rw [← tlK_map css]
  exact h.uniq (Ord.same (tlK_up css) (fun i hi j hj => hc i j (tlK_lt css i hi) (tlK_lt css j hj)))
theorem ord_hd {C : Nat → Int} (css : Bool) {r : List UInt8} (h : Ord C (hdK css) r) (hc : ∀ i j, i < 64 → j < 64 → C i = C j) : r = hdL css := by
  rw [← hdK_map css]
  exact h.uniq (Ord.same (hdK_up css) (fun i hi j hj => hc i j (hdK_lt css i hi) (hdK_lt css j hj)))

set_option maxHeartbeats 4000000 in
set_option maxRecDepth 100000 in
theorem law_nothing (css : Bool) (times : Int) (Nn : Option Addr) (q cq : Nat) (l : List Int) (w : World) (hg : Glob w) (hr : Reads w w.heap.size 1 Nn q (intCells l)) (hq : q = l.length) (hqq : q ≤ 9223372036854775807) :
    Calls Tryd.prog 11 #[.bool css, .int .i64 times, .slice Nn q cq] w fun e w' => e = .returned (.bool true) ∧ Below w.heap.size w w' := by
  have HG := Lib.hid hg
  have HR := Lib.hid hr
  have HQ := Lib.hid hq
  clear hg hr hq
  go_enter Tryd.func11, Tryd.ntmps11
  by_cases hbad : times < -1000 ∨ 1000 < times ∨ 1000 < q
  · have HW := Lib.hid (wakes_any w HG.out)
    by_cases h1 : times < -1000
    · go_wp2_with fail
      refine HW.out.mono ?_
      rintro e w5 ⟨rfl, hb5⟩
      go_wp2
      go_ret
      exact ⟨rfl, hb5⟩
    · by_cases h2 : 1000 < times
      · go_wp2_with fail
        refine HW.out.mono ?_
        rintro e w5 ⟨rfl, hb5⟩
        go_wp2
        go_ret
        exact ⟨rfl, hb5⟩
      · have h3 : (1000 : Int) < (q : Int) := by omega
        go_wp2_with fail
        refine HW.out.mono ?_
        rintro e w5 ⟨rfl, hb5⟩
        go_wp2
        go_ret
        exact ⟨rfl, hb5⟩
  · have ht1 : -1000 ≤ times := by omega
    have ht2 : times ≤ 1000 := by omega
    have hq1 : q ≤ 1000 := by omega
    have hq2 : ¬ (1000 : Int) < (q : Int) := by omega
    clear hbad
    go_wp2
    go_loopw [28] (fun x wr => ∃ k : Nat, k ≤ q ∧ x = .int .i64 k ∧ wr = w ∧ Hid (okNums (l.take k))) (fun x _ => q - (intOf x).toNat)
    case atStart => exact ⟨0, by omega, rfl, rfl, fun x hx => by simp at hx⟩
    case round =>
      obtain ⟨k, hk, rfl, rfl, HOK⟩ := hrel
      by_cases hlt : k < q
      · have hk2 : k < l.length := by rw [← HQ.out]; exact hlt
        obtain ⟨b, off, rfl, _, c0⟩ := HR.out.int hk2 (Below.refl _ _)
        have HMT : Hid (∀ y ∈ l.take (k + 1), y ∈ l.take k ∨ y = l[k]) := fun y hy => mem_take_succ hk2 hy
        generalize l[k] = x at *
        have HW := Lib.hid (wakes_any wr HG.out)
        by_cases hx1 : x < 0
        · go_wp2_with fail
          refine HW.out.mono ?_
          rintro e w5 ⟨rfl, hb5⟩
          go_wp2
          go_ret
          exact ⟨rfl, hb5⟩
        · by_cases hx2 : 35184372088832 < x
          · go_wp2_with fail
            refine HW.out.mono ?_
            rintro e w5 ⟨rfl, hb5⟩
            go_wp2
            go_ret
            exact ⟨rfl, hb5⟩
          · have HO2 : Hid (okNums (l.take (k + 1))) := fun y hy => by
              rcases HMT.out y hy with h | h
              · exact HOK.out y h
              · subst h; omega
            go_wp2
            go_roundw
            case rel => exact ⟨k + 1, by omega, by go_num, by trivial, HO2.out⟩
            case measure => simp [intOf]; omega
      · have hkq : k = q := by omega
        subst hkq
        have hall : l.take k = l := by rw [HQ.out]; exact List.take_length
        rw [hall] at HOK
        obtain ⟨ns, hl, hns⟩ := nums_of HOK.out
        subst hl
        have HNS : Hid (∀ x ∈ ns, x ≤ 4611686018427387903) := fun x hx => Nat.le_trans (hns x hx) (by omega)
        have HQ2 : Hid (k = ns.length) := HQ.out.trans (szI_length ns)
        clear hall HOK hns hlt hk
        go_wp2_with fail
        refine (tails_any false wr).mono ?_
        rintro e w1 ⟨rfl, rfl⟩
        have HB1 : Hid (Below wr.heap.size wr (wr.alloc (.cells #[.string (tailB false), .int .i64 times] 65))) := (Below.refl _ _).alloc (Nat.le_refl _) _
        have HT1 := Lib.hid (reads_new wr #[.string (tailB false), .int .i64 times] 65 (b := wr.heap.size) rfl)
        have HS1 : Hid (wr.heap.size < (wr.alloc (.cells #[.string (tailB false), .int .i64 times] 65)).heap.size) := by rw [World.size_alloc]; exact Nat.lt_succ_self _
        go_wp2_with fail
        generalize (wr.alloc (.cells #[.string (tailB false), .int .i64 times] 65)) = W1 at *
        have hA0 : areTexts (plainT []) := ⟨fun t h => (by cases h), by decide⟩
        refine (shuffled_any css none Nn 0 0 k cq [] ns W1 (HG.out.below HB1.out HG.out.size) Reads.none_ rfl (by omega) hA0 ((HR.out.below HB1.out).more HB1.out.size) HQ2.out (by omega) HNS.out).mono ?_
        rintro e w2 ⟨v1, h1, t1, rfl, oh1, ot1, hown1, hb2⟩
        obtain rfl := ord_tl css ot1 (fun i j _ _ => rfl)
        obtain rfl := ord_hd css oh1 (fun i j _ _ => rfl)
        obtain ⟨A1, c1, rfl, _, hr1⟩ := own_slice hown1
        have HR1 := Lib.hid hr1
        have HB2 := Lib.hid (HB1.out.trans (hb2.mono HB1.out.size))
        have HT2 : Hid (Reads w2 w2.heap.size 2 (some ⟨wr.heap.size, 0, none⟩) 1 (txtCells [(tailB false, times)])) := ((HT1.out.more HS1.out).below hb2).more hb2.size
        clear hown1 hr1 hb2 hA0 HB1 HT1 HS1 oh1 ot1
        have hA1 : areTexts (plainT [(tailB false, times)]) := ⟨fun t h => by
          simp [plainT] at h
          subst h
          exact ⟨by simpa using ht1, by simpa using ht2⟩, by
            have h1 := Lib.size_eq (tailB false)
            have h2 := tailB_le false
            show (tailB false).data.toList.length + 0 ≤ 100000
            omega⟩
        have HCN : Hid (∀ i, i < 64 → cnt (plainT [(tailB false, times)]) i = times) := fun i hi => by
          have := occ_signs i hi
          simp [cnt, plainT, this]
        go_wp2_with fail
        refine (shuffled_any css (some ⟨wr.heap.size, 0, none⟩) Nn 1 1 k cq [(tailB false, times)] ns w2 (HG.out.below HB2.out HG.out.size) HT2.out rfl (by omega) hA1 ((HR.out.below HB2.out).more HB2.out.size) HQ2.out (by omega) HNS.out).mono ?_
        rintro e w3 ⟨v2, h2, t2, rfl, oh2, ot2, hown2, hb3⟩
        obtain rfl := ord_tl css ot2 (fun i j hi hj => by rw [HCN.out i hi, HCN.out j hj])
        obtain rfl := ord_hd css oh2 (fun i j hi hj => by rw [HCN.out i hi, HCN.out j hj])
        obtain ⟨A2, c2, rfl, _, hr2⟩ := own_slice hown2
        have HR2 := Lib.hid hr2
        have HR1b := Lib.hid ((HR1.out.below hb3).more hb3.size)
        have HB3 := Lib.hid (HB2.out.trans (hb3.mono HB2.out.size))
        have HRN := Lib.hid ((HR.out.below HB3.out).more HB3.out.size)
        clear hown2 hr2 hb3 hA1 HB2 HT2 HR1 oh2 ot2 HCN HR
        go_wp2_with fail
        go_loopw [65] (fun x wr2 => ∃ j : Nat, j ≤ k ∧ x = .int .i64 j ∧ Hid (Below w3.heap.size w3 wr2)) (fun x _ => k - (intOf x).toNat)
        case atStart => exact ⟨0, by omega, rfl, Below.refl _ _⟩
        case round =>
          obtain ⟨j, hj, rfl, HW⟩ := hrel
          by_cases hlt : j < k
          · have hj2 : j < ns.length := by rw [← HQ2.out]; exact hlt
            obtain ⟨b, off, rfl, _, c0⟩ := HRN.out.int (k := j) (by simpa [szI] using hj2) HW.out
            rw [szI_get] at c0
            obtain ⟨b1, o1, rfl, _, s1⟩ := HR1b.out.name (k := j) (by simpa using hj2) HW.out
            obtain ⟨b2, o2, rfl, _, s2⟩ := HR2.out.name (k := j) (by simpa using hj2) HW.out
            simp only [List.getElem_map] at s1 s2
            have hnk := HNS.out ns[j] (List.getElem_mem _)
            generalize ns[j] = nk at *
            have HGW : Hid (∀ d os, Glob (Go.Sort.grow (redrawn wr d) os)) := fun d os => by
              have hb := HB3.out.trans ((HW.out.trans ((below_regrown wr d os).mono HW.out.size)).mono HB3.out.size)
              exact HG.out.below hb HG.out.size
            have HC16 : Hid (∀ d os, Calls Tryd.prog 16 #[.bool css, .int .i64 (nk : Int)] (Go.Sort.grow (redrawn wr d) os) fun e w' => e = .returned (.string ⟨(nameOf (hdL css) (tlL css) nk).toArray⟩) ∧ Below (Go.Sort.grow (redrawn wr d) os).heap.size (Go.Sort.grow (redrawn wr d) os) w') := fun d os => name_any css nk _ (HGW.out d os) hnk
            generalize nameOf (hdL css) (tlL css) nk = nm at *
            have k1 := cell_regrown s1
            have k2 := cell_regrown s2
            go_upto_region 16 with fail
            refine wp_region_quiet_below (by kernel_rfl) (by kernel_rfl) ?_
            repeat (quiet_step ((go_at_call 16; exact Calls.regrown_of (HC16.out _ _))))
            refine wpQuiet_nil ?_
            intro w' hw'
            obtain ⟨⟨d, os⟩, hw''⟩ := hw'
            subst hw''
            have HWB := Lib.hid (HW.out.trans ((below_regrown wr d os).mono HW.out.size))
            clear k1 k2 HC16 HGW s1 s2 c0 HW
            generalize Go.Sort.grow (redrawn wr d) os = W' at *
            go_wp2
            go_roundw
            case rel => exact ⟨j + 1, by omega, by go_num, HWB.out⟩
            case measure => simp [intOf]; omega
          · go_wp2_with fail
            have HBW := Lib.hid (HB3.out.trans (HW.out.mono HB3.out.size))
            refine (wakes_any _ (HG.out.below HBW.out HG.out.size)).mono ?_
            rintro e w5 ⟨rfl, hb5⟩
            have HB5 := Lib.hid (HBW.out.trans (hb5.mono HBW.out.size))
            clear hb5
            go_wp2
            go_ret
            exact ⟨rfl, HB5.out⟩
end Go.Proofs.YtbkgbnejmgjiiaaDoor
