/- Symbols by their numbers: what FollowSymbols, MergeSymbols and FollowAllSymbols do to groups. Conditions: at most 3000 symbols in all, uses of at most 1000000 each at first. -/
import Derived.Test.YtbkgbnejmgjiiaaDoorWTableW
namespace Go.Proofs.YtbkgbnejmgjiiaaDoor
open Go.RowKit Go.Deep

/-- a table of these sizes -/
structure Fits (T : Tbl) (sz : List Nat) : Prop where
  nf : T.nf = sz.length
  sz : ∀ f, T.sz f = sz.getD f 0
theorem Fits.V {T : Tbl} {sz : List Nat} (h : Fits T sz) (x : Nat × Nat) : T.V x ↔ Vz sz x := by unfold Tbl.V Vz; rw [h.nf, h.sz]
theorem Fits.pl {T : Tbl} {sz : List Nat} (h : Fits T sz) {i : Nat} (hi : i < sz.sum) : T.V (pl sz i) := (h.V _).2 (pl_V sz i hi).1
theorem Fits.num {T : Tbl} {sz : List Nat} (h : Fits T sz) {x : Nat × Nat} (hx : T.V x) : ∃ t, t < sz.sum ∧ x = Go.Proofs.YtbkgbnejmgjiiaaDoor.pl sz t := by
  have := num_V sz x.1 x.2 ((h.V _).1 hx)
  exact ⟨_, this.1, this.2.symm⟩
/-- the table holds these groups -/
def Sym (T : Tbl) (sz : List Nat) (st : St) (base : Nat) (w : World) : Prop :=
  ∃ s rk ρ M, Tab T base s w ∧ Inv T.V s rk ρ ∧ (∀ x, T.V x → rk x < M) ∧ (∀ i, i < sz.sum → ρ (pl sz i) = pl sz (st.g i)) ∧ (∀ i, i < sz.sum → s.uses (pl sz i) = st.u i)
theorem Sym.tab {T : Tbl} {sz : List Nat} {st : St} {base : Nat} {w : World} (h : Sym T sz st base w) : ∃ s, Tab T base s w ∧ ∀ i, i < sz.sum → s.uses (pl sz i) = st.u i := by
  obtain ⟨s, _, _, _, ht, _, _, _, hu⟩ := h
  exact ⟨s, ht, hu⟩
theorem Sym.sub {T : Tbl} {sz : List Nat} {st : St} {base : Nat} {w w' : World} (h : Sym T sz st base w) (hb : Below w.heap.size w w') : Sym T sz st base w' := by
  obtain ⟨s, rk, ρ, M, ht, h2⟩ := h
  exact ⟨s, rk, ρ, M, ht.sub hb, h2⟩
theorem Sym.grown {T : Tbl} {sz : List Nat} {st : St} {base : Nat} {w w' : World} {row : Option Nat} (h : Sym T sz st base w) (hg : w.grownBy w' row) (hr : ∀ g, row = some g → g ≠ T.S ∧ ∀ f, f < T.nf → g ≠ T.B f) : Sym T sz st base w' := by
  obtain ⟨s, rk, ρ, M, ht, h2⟩ := h
  refine ⟨s, rk, ρ, M, { ht with outer := ht.outer.of_block (hg.block _ ht.outer.lt (fun e => (hr _ e.symm).1 rfl)), inner := fun f hf => (ht.inner f hf).of_block (hg.block _ (ht.inner f hf).lt (fun e => (hr _ e.symm).2 f hf rfl)) }, h2⟩
theorem Sym.start {T : Tbl} {sz : List Nat} {us : List Int} {base : Nat} {w : World} (h : Tab T base (uf0 sz us) w) : Sym T sz ⟨id, u0 us⟩ base w :=
  ⟨uf0 sz us, fun _ => 0, id, 1, h, ⟨fun _ _ _ => rfl, fun x y _ hl => by cases hl⟩, fun _ _ => Nat.zero_lt_one, fun _ _ => rfl, fun i hi => by
    show u0 us (numOf sz (pl sz i)) = u0 us i
    rw [(pl_V sz i hi).2]⟩

theorem follow_sym {T : Tbl} {sz : List Nat} {st : St} {base : Nat} {w : World} (hF : Fits T sz) (hS : Sym T sz st base w) (hi : InvRef w) (hb : 3 ≤ base) {i : Nat} (hn : i < sz.sum) :
    Calls Tryd.prog 49 #[.agg #[.slice (some ⟨T.S, 0, none⟩) T.nf T.nf], .agg #[.int .u32 ((pl sz i).1 : Int), .int .u32 ((pl sz i).2 : Int)]] w fun e w' => e = .returned (.agg #[.int .u32 ((pl sz (st.g i)).1 : Int), .int .u32 ((pl sz (st.g i)).2 : Int)]) ∧ Sym T sz st base w' ∧ Kp T w w' := by
  obtain ⟨s, rk, ρ, M, ht, hv, hM, hg, hu⟩ := hS
  refine (follow_any T base rk ρ hb (rk (pl sz i)) s w (pl sz i) (Nat.le_refl _) ht hi hv (hF.pl hn)).mono ?_
  rintro e w' ⟨rfl, s', ht', hv', hu', hk⟩
  rw [hg i hn]
  exact ⟨rfl, ⟨s', rk, ρ, M, ht', hv', hM, hg, fun i hi => by rw [hu', hu i hi]⟩, hk⟩

theorem merge_sym {T : Tbl} {sz : List Nat} {st : St} {base : Nat} {w : World} {us : Nat → Nat} (hF : Fits T sz) (hS : Sym T sz st base w) (hi : InvRef w) (hG : Good sz.sum us st) (hus : ∀ i, us i ≤ 1000000) (hs : sz.sum ≤ 3000) {a b : Nat} (ha : a < sz.sum) (hb : b < sz.sum) :
    Calls Tryd.prog 50 #[.agg #[.slice (some ⟨T.S, 0, none⟩) T.nf T.nf], .agg #[.int .u32 ((pl sz a).1 : Int), .int .u32 ((pl sz a).2 : Int)], .agg #[.int .u32 ((pl sz b).1 : Int), .int .u32 ((pl sz b).2 : Int)]] w fun e w' =>
      ∃ t, t < sz.sum ∧ e = .returned (.agg #[.int .u32 ((pl sz t).1 : Int), .int .u32 ((pl sz t).2 : Int)]) ∧ st.g t = st.g b ∧ Sym T sz (st.merge a b) base w' ∧ Kp T w w' := by
  obtain ⟨s, rk, ρ, M, ht, hv, hM, hg, hu⟩ := hS
  have hga := hG.lt a ha
  have hgb := hG.lt b hb
  have hinj : ∀ i j, i < sz.sum → j < sz.sum → (pl sz (st.g i) = pl sz (st.g j) ↔ st.g i = st.g j) := fun i j hi hj => ⟨fun h => pl_inj (hG.lt i hi) (hG.lt j hj) h, fun h => by rw [h]⟩
  have hsum : ρ (pl sz a) ≠ ρ (pl sz b) → s.uses (ρ (pl sz b)) + s.uses (ρ (pl sz a)) ≤ 4294967295 := by
    rw [hg a ha, hg b hb, hu _ hga, hu _ hgb]
    intro h
    have hne : st.g b ≠ st.g a := fun e => h (by rw [e])
    rw [hG.uses _ hgb (hG.idem b hb), hG.uses _ hga (hG.idem a ha)]
    have := usum_two 1000000 sz.sum us st.g hus _ _ hne
    omega
  refine (merge_any T base s rk ρ M hv hM _ (pl sz a) (pl sz b) (Nat.le_refl _) (hF.pl ha) (hF.pl hb) hsum w ht hi).mono ?_
  rintro e w' ⟨r, rfl, hm⟩
  obtain ⟨t, htl, rfl⟩ := hF.num hm.vr
  have hrho := hm.rho
  rw [hg t htl, hg b hb, hinj t b htl hb] at hrho
  refine ⟨t, htl, rfl, hrho, ?_, hm.kp⟩
  by_cases hab : st.g a = st.g b
  · have e : st.merge a b = st := by unfold St.merge; rw [if_pos hab]
    rw [e]
    obtain ⟨_, s', ht', hv', hu'⟩ := hm.same (by rw [hg a ha, hg b hb, hab])
    exact ⟨s', rk, ρ, M, ht', hv', hM, hg, fun i hi => by rw [hu', hu i hi]⟩
  · obtain ⟨s', ht', hv', hu'⟩ := hm.other (by rw [hg a ha, hg b hb]; exact fun h => hab ((hinj a b ha hb).1 h))
    refine ⟨s', _, _, M + M, ht', hv', ?_, ?_, ?_⟩
    · intro x hx
      have := hM x hx
      unfold rkUp
      split <;> omega
    · intro i hi
      rw [St.merge_g]
      unfold rhoUp
      rw [hg i hi, hg a ha, hg b hb]
      by_cases h1 : st.g i = st.g a
      · rw [if_pos h1, if_pos (by rw [h1])]
      · rw [if_neg h1, if_neg (fun h => h1 ((hinj i a hi ha).1 h))]
    · intro i hi
      rw [hu']
      unfold usesUp
      rw [hg a ha, hg b hb, hu _ hga, hu _ hgb]
      have e : (st.merge a b).u i = if i = st.g b then st.u (st.g b) + st.u (st.g a) else st.u i := by unfold St.merge; rw [if_neg hab]
      rw [e]
      by_cases h1 : i = st.g b
      · rw [if_pos h1, if_pos (by rw [h1])]
      · rw [if_neg h1, if_neg (fun h => h1 (pl_inj hi hgb h)), hu i hi]

theorem Kp.invRef {T : Tbl} {base : Nat} {s : UF} {a b : World} (hk : Kp T a b) (ht : Tab T base s a) (hi : InvRef a) (hb : 3 ≤ base) : InvRef b := hi.below (hk.below ht) hb

set_option maxHeartbeats 2000000 in
set_option maxRecDepth 100000 in
theorem followAll_any (T : Tbl) (sz : List Nat) (st : St) (base : Nat) (w : World) (hF : Fits T sz) (hS : Sym T sz st base w) (hi : InvRef w) (hb : 3 ≤ base) (hnf : T.nf ≤ 1048576) :
    Calls Tryd.prog 51 #[.agg #[.slice (some ⟨T.S, 0, none⟩) T.nf T.nf]] w fun e w' => e = .returned (.tuple #[]) ∧ Sym T sz st base w' ∧ Kp T w w' := by
  have HF := Lib.hid hF
  have HS := Lib.hid hS
  have HI := Lib.hid hi
  have HBLT : Hid (∀ f, f < T.nf → T.B f < w.heap.size) := fun f hf => by
    obtain ⟨s, ht, _⟩ := hS.tab
    exact (ht.inner f hf).lt
  clear hF hS hi
  go_enter Tryd.func51, Tryd.ntmps51
  go_wp2_with fail
  have HS0 : Hid (Sym T sz st base (w.alloc (.cells #[.slice (some ⟨T.S, 0, none⟩) T.nf T.nf] 94))) := HS.out.sub ((Below.refl _ _).alloc (Nat.le_refl _) _)
  have HC0 : Hid ((w.alloc (.cells #[.slice (some ⟨T.S, 0, none⟩) T.nf T.nf] 94)).cell? ⟨w.heap.size, 0, none⟩ = some (.slice (some ⟨T.S, 0, none⟩) T.nf T.nf)) := by rw [Lib.cell_of_heap (heap_alloc_new w _)]; exact rfl
  have HK0 : Hid (Kp T w (w.alloc (.cells #[.slice (some ⟨T.S, 0, none⟩) T.nf T.nf] 94))) := Kp.of_below ((Below.refl _ _).alloc (Nat.le_refl _) _)
  generalize w.alloc (.cells #[.slice (some ⟨T.S, 0, none⟩) T.nf T.nf] 94) = W at *
  go_loopw [8] (fun x wr => ∃ k : Nat, k ≤ T.nf ∧ x = .int .i64 k ∧ Hid (Sym T sz st base wr) ∧ Hid (Kp T W wr)) (fun x _ => T.nf - (intOf x).toNat)
  case atStart => exact ⟨0, by omega, rfl, HS0.out, Kp.refl _ _⟩
  case round =>
    clear HS0
    obtain ⟨k, hk, rfl, HSY, HK⟩ := hrel
    by_cases hlt : k < T.nf
    · have HKV : Hid (∀ i, i < T.sz k → numOf sz (k, i) < sz.sum ∧ pl sz (numOf sz (k, i)) = (k, i)) := fun i hi => num_V sz k i ((HF.out.V _).1 ⟨hlt, hi⟩)
      have hsz : T.sz k ≤ 3000 := by
        obtain ⟨s, ht, _⟩ := HSY.out.tab
        exact ht.small k hlt
      have cr : wr.cell? ⟨T.S, k, none⟩ = some (.slice (some ⟨T.B k, 0, none⟩) (T.sz k) (T.sz k)) := by
        obtain ⟨s, ht, _⟩ := HSY.out.tab
        exact ht.outer.cell hlt
      generalize T.sz k = zk at *
      go_wp2_with fail
      clear cr
      go_loopw [15] (fun y wi => ∃ i : Nat, i ≤ zk ∧ y = .int .i64 i ∧ Hid (Sym T sz st base wi) ∧ Hid (Kp T W wi)) (fun y _ => zk - (intOf y).toNat)
      case atStart => exact ⟨0, by omega, rfl, HSY.out, HK.out⟩
      case round =>
        clear HSY HK
        obtain ⟨i, hi, rfl, HSY, HK⟩ := hrel
        by_cases hil : i < zk
        · have cb : wr.cell? ⟨w.heap.size, 0, none⟩ = some (.slice (some ⟨T.S, 0, none⟩) T.nf T.nf) := (HK.out.cell (p := ⟨w.heap.size, 0, none⟩) (cell_lt' HC0.out) (fun f hf e => by have := HBLT.out f hf; simp only at e; omega)).trans HC0.out
          have HCALL : Hid (Calls Tryd.prog 49 #[.agg #[.slice (some ⟨T.S, 0, none⟩) T.nf T.nf], .agg #[.int .u32 (k : Int), .int .u32 (i : Int)]] wr fun e w' => ∃ v, e = .returned v ∧ Sym T sz st base w' ∧ Kp T wr w') := by
            have h1 := HKV.out i hil
            have hir : InvRef wr := by
              obtain ⟨s, ht, _⟩ := HS.out.tab
              exact (HK0.out.trans HK.out).invRef ht HI.out hb
            have h2 := follow_sym HF.out HSY.out hir hb h1.1
            rw [h1.2] at h2
            exact h2.mono fun e w' h => ⟨_, h.1, h.2.1, h.2.2⟩
          go_wp2_with fail
          refine HCALL.out.mono ?_
          rintro e w2 ⟨v, rfl, hs2, hk2⟩
          have HS2 := Lib.hid hs2
          have HK2 := Lib.hid (HK.out.trans hk2)
          clear hs2 hk2 cb
          go_wp2
          go_roundw
          case rel => exact ⟨i + 1, by omega, by go_num, HS2.out, HK2.out⟩
          case measure => simp [intOf]; omega
        · go_wp2
          go_roundw
          case rel => exact ⟨k + 1, by omega, by go_num, HSY.out, HK.out⟩
          case measure => simp [intOf]; omega
    · go_wp2
      go_end0
      exact ⟨rfl, HSY.out, HK0.out.trans HK.out⟩
end Go.Proofs.YtbkgbnejmgjiiaaDoor
