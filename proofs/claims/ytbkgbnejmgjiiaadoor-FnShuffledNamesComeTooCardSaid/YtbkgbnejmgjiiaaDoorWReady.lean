/- What spec.Place, laws.at, spec.Symbol and laws.ready compute. Conditions: for Place and Symbol a symbol that there is, among at most 3000 in all; for ready at most 2^43 steps. -/
import Derived.Test.YtbkgbnejmgjiiaaDoorWSizes
import Derived.Test.YtbkgbnejmgjiiaaDoorWAppend
namespace Go.Proofs.YtbkgbnejmgjiiaaDoor
open Go.RowKit Go.Deep

def szI (sz : List Nat) : List Int := sz.map (fun n : Nat => (n : Int))
theorem szI_length (sz : List Nat) : (szI sz).length = sz.length := by simp [szI]
theorem szI_get (sz : List Nat) (k : Nat) (h : k < (szI sz).length) : (szI sz)[k] = ((sz[k]'(by simpa [szI] using h) : Nat) : Int) := by simp [szI]
theorem own_keep {a b : World} {base size n : Nat} {e : TypeId} {v : Value} {xs : List Value} (h : a.ownsRow base e size v n xs) (hk : ∀ g, v.ownBlock = some g → b.heap[g]? = a.heap[g]?) : b.ownsRow base e size v n xs := by
  refine ⟨h.1, ?_⟩
  rcases h.2 with h2 | ⟨g, cap, cur, rfl, h3, h4, h5⟩
  · exact .inl h2
  · exact .inr ⟨g, cap, cur, rfl, h3, (hk g rfl).trans h4, h5⟩
theorem own_below {a b : World} {base size n : Nat} {e : TypeId} {v : Value} {xs : List Value} (h : a.ownsRow base e size v n xs) (hb : Below a.heap.size a b) : b.ownsRow base e size v n xs := own_keep h fun g hg => hb.block g (h.lt g hg).2
theorem nsum_drop (l : List Nat) (k : Nat) : (l.take k).sum + (l.drop k).sum = l.sum := by rw [← List.sum_append, List.take_append_drop]
theorem mem_le_sum {l : List Nat} {k : Nat} (h : k < l.length) : l[k] ≤ l.sum := by
  have h1 := nsum_take_succ l k h
  have h2 := nsum_take_le l (k + 1)
  omega

set_option maxHeartbeats 1000000 in
set_option maxRecDepth 100000 in
theorem spPlace_any (A : Option Addr) (n c : Nat) (sz : List Nat) (i : Nat) (w : World) (hr : Reads w w.heap.size 1 A n (intCells (szI sz))) (hn : n = sz.length) (hm : n ≤ 9223372036854775807) (hi : i < sz.sum) (hs : sz.sum ≤ 3000) :
    Calls Tryd.prog 53 #[.slice A n c, .int .i64 (i : Int)] w fun e w' => e = .returned (.tuple #[.int .i64 ((pl sz i).1 : Int), .int .i64 ((pl sz i).2 : Int)]) ∧ w = w' := by
  have HR := Lib.hid hr
  have HN := Lib.hid hn
  have HI := Lib.hid hi
  clear hr hn hi
  go_enter Tryd.func53, Tryd.ntmps53
  go_wp2
  go_loopw [1, 6] (fun v x wr => ∃ k j : Nat, k < n ∧ x = .int .i64 k ∧ v = .int .i64 j ∧ j ≤ 3000 ∧ Hid ((sz.take k).sum + j = i) ∧ wr = w) (fun _ x _ => n - (intOf x).toNat)
  case atStart =>
    refine ⟨0, i, ?_, rfl, rfl, ?_, by simp [Hid], rfl⟩
    · rw [HN.out]
      rcases Nat.eq_zero_or_pos sz.length with h | h
      · have := HI.out
        rw [List.eq_nil_of_length_eq_zero h] at this
        simp at this
      · exact h
    · have := HI.out; omega
  case round =>
    obtain ⟨k, j, hk, rfl, rfl, hj, HJ, rfl⟩ := hrel
    have hk2 : k < sz.length := by rw [← HN.out]; exact hk
    obtain ⟨b, off, rfl, hbB, c0⟩ := HR.out.int (k := k) (by rw [szI_length]; exact hk2) (Below.refl _ _)
    rw [szI_get] at c0
    have HSN := Lib.hid (nsum_take_succ sz k hk2)
    have hle : sz[k] ≤ 3000 := Nat.le_trans (mem_le_sum hk2) hs
    have HV : Hid (j < sz[k] → pl sz i = (k, j)) := fun h => by
      have := (num_V sz k j ⟨hk2, by simpa [List.getD, hk2] using h⟩).2
      rw [← this]
      congr 1
      exact HJ.out.symm
    have HNX : Hid (¬ j < sz[k] → k + 1 < n) := fun h => by
      have h1 := HI.out
      have h2 := HJ.out
      have h3 := HSN.out
      have h5 := HN.out
      rcases Nat.lt_or_ge (k + 1) n with h4 | h4
      · exact h4
      · rw [List.take_of_length_le (by omega)] at h3
        omega
    generalize sz[k] = x at *
    by_cases h1 : j < x
    · have hp := HV.out h1
      go_wp2
      rw [hp]
      exact bodyPost_ret (v := .tuple #[.int .i64 (k : Int), .int .i64 (j : Int)]) (by simp [results, Tryd.results53, go_sem]) rfl ⟨rfl, rfl⟩
    · have hk3 := HNX.out h1
      go_wp2
      go_roundw
      case rel => exact ⟨k + 1, j - x, by omega, by go_num, by go_num, by omega, by show _ = _; rw [HSN.out]; have := HJ.out; omega, by trivial⟩
      case measure => simp [intOf]; omega

set_option maxHeartbeats 1000000 in
set_option maxRecDepth 100000 in
theorem at_any (A : Option Addr) (n c : Nat) (sz : List Nat) (i : Nat) (w : World) (hr : Reads w w.heap.size 1 A n (intCells (szI sz))) (hn : n = sz.length) (hm : n ≤ 9223372036854775807) (hi : i < sz.sum) (hs : sz.sum ≤ 3000) :
    Calls Tryd.prog 31 #[.slice A n c, .agg #[.int .i64 ((pl sz i).1 : Int), .int .i64 ((pl sz i).2 : Int)], .int .i64 (i : Int)] w fun e w' => e = .returned (.bool true) ∧ Below w.heap.size w w' := by
  have HR := Lib.hid hr
  have HN := Lib.hid hn
  have HI := Lib.hid hi
  have HS := Lib.hid hs
  clear hr hn hi hs
  have HP : Hid (∀ W : World, Below w.heap.size w W → Calls Tryd.prog 53 #[.slice A n c, .int .i64 (i : Int)] W fun e w' => e = .returned (.tuple #[.int .i64 ((pl sz i).1 : Int), .int .i64 ((pl sz i).2 : Int)]) ∧ W = w') := fun W hb => spPlace_any A n c sz i W ((HR.out.below hb).more hb.size) HN.out hm HI.out HS.out
  generalize pl sz i = q at *
  go_enter Tryd.func31, Tryd.ntmps31
  go_wp2_with fail
  have HB : Hid (Below w.heap.size w (w.alloc (.cells #[.int .i64 (q.1 : Int), .int .i64 (q.2 : Int)] 55))) := (Below.refl _ _).alloc (Nat.le_refl _) _
  refine (HP.out _ HB.out).mono ?_
  rintro e w1 ⟨rfl, rfl⟩
  go_wp2
  go_ret
  exact ⟨rfl, HB.out⟩

set_option maxHeartbeats 1000000 in
set_option maxRecDepth 100000 in
theorem symbol_any (A : Option Addr) (n c : Nat) (sz : List Nat) (x : Nat × Nat) (w : World) (hr : Reads w w.heap.size 1 A n (intCells (szI sz))) (hn : n = sz.length) (hnc : n ≤ c) (hm : c ≤ 9223372036854775807) (hx : Vz sz x) (hs : sz.sum ≤ 3000) :
    Calls Tryd.prog 32 #[.slice A n c, .int .i64 (x.1 : Int), .int .i64 (x.2 : Int)] w fun e w' => e = .returned (.tuple #[.int .i64 (numOf sz x : Int), .bool true]) ∧ w = w' := by
  have HR := Lib.hid hr
  have HN := Lib.hid hn
  obtain ⟨f, j⟩ := x
  have hf : f < sz.length := hx.1
  have hfn : f < n := by omega
  have hj : j < sz[f] := by have := hx.2; simpa [List.getD, hf] using this
  have HNUM : Hid (numOf sz (f, j) = (sz.take f).sum + j) := rfl
  obtain ⟨b, off, rfl, hbB, cf⟩ := hr.int (k := f) (by rw [szI_length]; exact hf) (Below.refl _ _)
  rw [szI_get] at cf
  have hle : sz[f] ≤ 3000 := Nat.le_trans (mem_le_sum hf) hs
  have HF := Lib.hid hf
  have HC : Hid (∀ k, k < sz.length → w.cell? ⟨b, off + k, none⟩ = some (.int .i64 (sz.getD k 0 : Nat))) := fun k hk => by
    obtain ⟨b', off', e, _, h⟩ := HR.out.int (k := k) (by rw [szI_length]; exact hk) (Below.refl _ _)
    rw [szI_get] at h
    injection e with e
    injection e with e1 e2
    subst e1 e2
    rw [h]
    simp [List.getD, hk]
  simp only
  generalize numOf sz (f, j) = NN at *
  generalize sz[f] = zf at *
  clear hr hn hx hf
  go_enter Tryd.func32, Tryd.ntmps32
  go_wp2
  go_loopw [2, 34] (fun v y wr => ∃ k s : Nat, k ≤ f ∧ y = .int .i64 k ∧ v = .int .i64 s ∧ Hid (s = (sz.take k).sum + j) ∧ wr = w) (fun _ y _ => f - (intOf y).toNat)
  case atStart => exact ⟨0, j, by omega, rfl, rfl, by simp [Hid], rfl⟩
  case round =>
    obtain ⟨k, s, hk, rfl, rfl, HJ, rfl⟩ := hrel
    by_cases hlt : k < f
    · have hk2 : k < sz.length := Nat.lt_trans hlt HF.out
      have c0 := HC.out k hk2
      have HSN := Lib.hid (nsum_take_succ sz k hk2)
      have hb1 : s ≤ 6000 := by
        have h1 := HJ.out
        have h2 := nsum_take_le sz k
        omega
      have hg : sz.getD k 0 = sz[k] := by simp [List.getD, hk2]
      rw [hg] at c0
      have hb2 : sz[k] ≤ 3000 := Nat.le_trans (mem_le_sum hk2) hs
      generalize sz[k] = z at *
      go_wp2
      go_roundw
      case rel => exact ⟨k + 1, s + z, by omega, by go_num, by go_num, by show _ = _; rw [HSN.out, HJ.out]; omega, by trivial⟩
      case measure => simp [intOf]; omega
    · have HE : Hid (s = NN) := by
        rw [HNUM.out]
        have h1 := HJ.out
        have h2 : k = f := by omega
        rw [h2] at h1
        exact h1
      go_wp2
      rw [← HE.out]
      exact bodyPost_ret (v := .tuple #[.int .i64 (s : Int), .bool true]) (by simp [results, Tryd.results32, go_sem]) rfl ⟨rfl, rfl⟩

theorem info89 : (Tryd.prog.info? 89).map (fun i => (i.zero, i.size, i.bytes)) = some (some (.agg #[.int .i64 0, .int .i64 0]), 2, 16) := by kernel_rfl

set_option maxHeartbeats 1000000 in
set_option maxRecDepth 100000 in
theorem ready_any (A D : Option Addr) (n m c d : Nat) (l : List Int) (st : List (Int × Int)) (w : World) (hr : Reads w w.heap.size 1 A n (intCells l)) (hn : n = l.length) (hm : n ≤ 9223372036854775807)
    (hrs : Reads w w.heap.size 2 D m (pairCells st)) (hms : m = st.length) (hmm : m * 16 ≤ 140737488355328) (r : Bool) (hb : r = true ↔ okSizes l ∧ st.length ≤ 3000 ∧ okSteps (totI l) st) :
    Calls Tryd.prog 27 #[.slice A n c, .slice D m d] w fun e w' => ∃ v, e = .returned (.tuple #[.int .i64 (totI l), v, .bool r]) ∧ w'.ownsRow w.heap.size 89 2 v m (pairCells st) ∧ Below w.heap.size w w' := by
  have HR := Lib.hid hr
  have HN := Lib.hid hn
  have HRS := Lib.hid hrs
  have HMS := Lib.hid hms
  have HB := Lib.hid hb
  clear hr hn hrs hms hb
  have HF : Hid (¬ (okSizes l ∧ st.length ≤ 3000 ∧ okSteps (totI l) st) → r = false) := fun h => by
    cases r with
    | false => rfl
    | true => exact absurd (HB.out.1 rfl) h
  obtain ⟨i0, hi, hz0, hz1, hz2⟩ := info_parts info89
  go_enter Tryd.func27, Tryd.ntmps27
  go_wp2
  go_loopw [7, 13] (fun v x wr => ∃ k : Nat, k ≤ m ∧ x = .int .i64 k ∧ Hid (wr.ownsRow w.heap.size 89 2 v k (pairCells (st.take k))) ∧ Hid (Below w.heap.size w wr)) (fun _ x _ => m - (intOf x).toNat)
  case atStart => exact ⟨0, by omega, rfl, World.ownsRow_nil _ _ _ _, Below.refl _ _⟩
  case round =>
    obtain ⟨k, hk, rfl, HO, HW⟩ := hrel
    have hws := HW.out.size
    by_cases hlt : k < m
    · have hk2 : k < st.length := by rw [← HMS.out]; exact hlt
      obtain ⟨b, off, rfl, hbB, c0, c1⟩ := HRS.out.pair hk2 HW.out
      have HS := Lib.hid (pairCells_snoc st k hk2)
      go_wp2_with (at_builtin; refine wpList_append_own _ rfl _ _ 45 rfl w.heap.size 89 i0 _ 2 16 Tryd.underlying45 hi hz0 hz1 hz2 rfl (by decide) _ _ _ rfl ((HO.out.alloc _).alloc _) ⟨wr.heap.size + 1, 0, none⟩ 1 1 [.int .i64 st[k].1, .int .i64 st[k].2] rfl rfl ?c1 ?c2 ?c3 ?c4 ?c5 ?_)
      case c1 =>
        intro j u hu
        match j, hu with
        | 0, hu => simp at hu; subst hu; simp [Addr.add]
        | 1, hu => simp at hu; subst hu; simp [Addr.add]
      case c2 => intro u hu; simp at hu; rcases hu with rfl | rfl <;> rfl
      case c3 => unfold maxLen; omega
      case c4 => omega
      case c5 => simp; omega
      intro v' w1 hown1 hg1 _
      have HO1 : Hid (w1.ownsRow w.heap.size 89 2 v' (k + 1) (pairCells (st.take (k + 1)))) := by rw [HS.out]; exact hown1
      have HW1 : Hid (Below w.heap.size w w1) := ((HW.out.alloc hws _).alloc (by simp; omega) _).grown hg1 (by simp; omega) (fun g hgg => (HO.out.lt g hgg).1)
      clear hown1 hg1
      go_wp2
      go_roundw
      case rel => exact ⟨k + 1, by omega, by go_num, HO1.out, HW1.out⟩
      case measure => simp [intOf]; omega
    · have ht : st.take k = st := List.take_of_length_le (by have := HMS.out; omega)
      have hkm : k = m := by omega
      subst hkm
      rw [ht] at HO
      clear ht
      have HT : Hid (Calls Tryd.prog 45 #[.slice A n c] wr fun e w' => e = .returned (.int .i64 (totI l)) ∧ wr = w') := total_any A n c l wr ((HR.out.below HW.out).more hws) HN.out hm
      obtain ⟨A2, c2, hv, hc2, hr2⟩ := own_slice HO.out
      subst hv
      have HTN := Lib.hid (fun h => totI_not (l := l) h)
      have HTP := Lib.hid (fun h => totI_ok (l := l) h)
      have HRD := Lib.hid hr2
      clear hr2
      generalize hte : totI l = t at *
      have HTE := Lib.hid hte
      clear hte
      by_cases h1 : t < 0
      · have hrf : r = false := HF.out (fun h => by
          have a1 := HTP.out h.1
          have a2 := sum_nonneg h.1.1
          omega)
        subst hrf
        go_wp2_with (go_at_call 45; refine HT.out.mono ?_; rintro e w' ⟨rfl, rfl⟩)
        exact bodyPost_ret (v := .tuple #[.int .i64 t, .slice A2 k c2, .bool false]) (by simp [results, Tryd.results27, go_sem]) rfl ⟨_, by rw [HTE.out], HO.out, HW.out⟩
      · by_cases h2 : 3000 < k
        · have hrf : r = false := HF.out (fun h => by
            have a1 := h.2.1
            have a2 := HMS.out
            omega)
          subst hrf
          go_wp2_with (go_at_call 45; refine HT.out.mono ?_; rintro e w' ⟨rfl, rfl⟩)
          exact bodyPost_ret (v := .tuple #[.int .i64 t, .slice A2 k c2, .bool false]) (by simp [results, Tryd.results27, go_sem]) rfl ⟨_, by rw [HTE.out], HO.out, HW.out⟩
        · have HOKS : Hid (okSizes l) := by
            by_cases h : okSizes l
            · exact h
            · exact absurd (HTN.out h) (by omega)
          have HAS : Hid (Calls Tryd.prog 46 #[.slice A2 k c2, .int .i64 t] wr fun e w' => e = .returned (.bool r) ∧ Below wr.heap.size wr w') :=
            areSteps_any A2 k c2 st t wr HRD.out HMS.out (by omega) r (HB.out.trans ⟨fun h => h.2.2, fun h => ⟨HOKS.out, by have := HMS.out; omega, h⟩⟩)
          go_wp2_with (first | (go_at_call 45; refine HT.out.mono ?_; rintro e w' ⟨rfl, rfl⟩) | fail)
          refine HAS.out.mono ?_
          rintro e w1 ⟨rfl, hb1⟩
          have HB1 := Lib.hid (HW.out.trans (hb1.mono hws))
          have HO1 := Lib.hid (own_below HO.out hb1)
          clear hb1
          go_wp2
          exact bodyPost_ret (v := .tuple #[.int .i64 t, .slice A2 k c2, .bool r]) (by simp [results, Tryd.results27, go_sem]) rfl ⟨_, by rw [HTE.out], HO1.out, HB1.out⟩
end Go.Proofs.YtbkgbnejmgjiiaaDoor
