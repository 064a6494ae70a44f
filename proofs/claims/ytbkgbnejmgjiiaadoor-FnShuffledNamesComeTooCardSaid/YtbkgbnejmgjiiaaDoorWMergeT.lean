/- What a merge of symbols means for links, ranks, groups and uses. Conditions: each lemma names its own. -/
import Derived.Test.YtbkgbnejmgjiiaaDoorWContents
namespace Go.Proofs.YtbkgbnejmgjiiaaDoor
open Go.RowKit Go.Deep

def rkUp (rk : Nat × Nat → Nat) (ρ : Nat × Nat → Nat × Nat) (M : Nat) (o : Nat × Nat) : Nat × Nat → Nat := fun x => if ρ x = ρ o then rk x + M else rk x
def rhoUp (ρ : Nat × Nat → Nat × Nat) (o n : Nat × Nat) : Nat × Nat → Nat × Nat := fun x => if ρ x = ρ o then ρ n else ρ x
def usesUp (u : Nat × Nat → Nat) (ρ : Nat × Nat → Nat × Nat) (o n : Nat × Nat) : Nat × Nat → Nat := fun z => if z = ρ n then u (ρ n) + u (ρ o) else u z

/-- what MergeSymbols leaves when it tells r -/
structure Merged (T : Tbl) (base : Nat) (s : UF) (rk : Nat × Nat → Nat) (ρ : Nat × Nat → Nat × Nat) (M : Nat) (o n r : Nat × Nat) (w w' : World) : Prop where
  vr : T.V r
  le : rk r ≤ rk n
  rho : ρ r = ρ n
  kp : Kp T w w'
  same : ρ o = ρ n → rk r ≤ rk o ∧ ∃ s', Tab T base s' w' ∧ Inv T.V s' rk ρ ∧ s'.uses = s.uses
  other : ρ o ≠ ρ n → ∃ s', Tab T base s' w' ∧ Inv T.V s' (rkUp rk ρ M o) (rhoUp ρ o n) ∧ s'.uses = usesUp s.uses ρ o n

theorem Merged.tab {T : Tbl} {base : Nat} {s : UF} {rk : Nat × Nat → Nat} {ρ : Nat × Nat → Nat × Nat} {M : Nat} {o n r : Nat × Nat} {w w' : World} (h : Merged T base s rk ρ M o n r w w') : ∃ s', Tab T base s' w' := by
  by_cases e : ρ o = ρ n
  · obtain ⟨_, s', ht, _⟩ := h.same e; exact ⟨s', ht⟩
  · obtain ⟨s', ht, _⟩ := h.other e; exact ⟨s', ht⟩

/-- the same, with the old symbol's link set behind it -/
theorem Merged.old {T : Tbl} {base : Nat} {s : UF} {rk : Nat × Nat → Nat} {ρ : Nat × Nat → Nat × Nat} {M : Nat} {o l n r : Nat × Nat} {w w' : World} (h : Merged T base s rk ρ M l n r w w') (hv : Inv T.V s rk ρ) (hM : ∀ x, T.V x → rk x < M) (ho : T.V o) (hl : s.link o = some l) :
    Merged T base s rk ρ M o n r w ((w'.setCell ⟨T.B o.1, o.2 * 10 + 2, none⟩ (.int .u32 (r.1 : Int))).setCell ⟨T.B o.1, o.2 * 10 + 2 + 1, none⟩ (.int .u32 (r.2 : Int))) := by
  obtain ⟨hvl, hrl, hel⟩ := hv.step o l ho hl
  refine ⟨h.vr, h.le, h.rho, (h.kp.setCell ho.1 _ _).setCell ho.1 _ _, fun e => ?_, fun e => ?_⟩
  · obtain ⟨h1, s', ht, hi, hu⟩ := h.same (hel.trans e)
    exact ⟨by omega, s'.setLink o r, ht.setLink ho r, hi.set h.vr (by omega) (h.rho.trans e.symm), hu⟩
  · obtain ⟨s', ht, hi, hu⟩ := h.other (fun e' => e (hel.symm.trans e'))
    have e1 : rkUp rk ρ M l = rkUp rk ρ M o := by unfold rkUp; rw [hel]
    have e2 : rhoUp ρ l n = rhoUp ρ o n := by unfold rhoUp; rw [hel]
    have e3 : usesUp s.uses ρ l n = usesUp s.uses ρ o n := by unfold usesUp; rw [hel]
    rw [e1, e2] at hi
    rw [e3] at hu
    refine ⟨s'.setLink o r, ht.setLink ho r, hi.set h.vr ?_ ?_, hu⟩
    · have h1 := hM r h.vr
      unfold rkUp
      rw [if_neg (by rw [h.rho]; exact fun e' => e e'.symm), if_pos rfl]
      omega
    · unfold rhoUp
      rw [if_neg (by rw [h.rho]; exact fun e' => e e'.symm), if_pos rfl]
      exact h.rho
/-- .. and the new symbol's -/
theorem Merged.new {T : Tbl} {base : Nat} {s : UF} {rk : Nat × Nat → Nat} {ρ : Nat × Nat → Nat × Nat} {M : Nat} {o l n r : Nat × Nat} {w w' : World} (h : Merged T base s rk ρ M o l r w w') (hv : Inv T.V s rk ρ) (hn : T.V n) (hl : s.link n = some l) :
    Merged T base s rk ρ M o n r w ((w'.setCell ⟨T.B n.1, n.2 * 10 + 2, none⟩ (.int .u32 (r.1 : Int))).setCell ⟨T.B n.1, n.2 * 10 + 2 + 1, none⟩ (.int .u32 (r.2 : Int))) := by
  obtain ⟨hvl, hrl, hel⟩ := hv.step n l hn hl
  have hle := h.le
  refine ⟨h.vr, by omega, h.rho.trans hel, (h.kp.setCell hn.1 _ _).setCell hn.1 _ _, fun e => ?_, fun e => ?_⟩
  · obtain ⟨h1, s', ht, hi, hu⟩ := h.same (e.trans hel.symm)
    exact ⟨h1, s'.setLink n r, ht.setLink hn r, hi.set h.vr (by omega) (h.rho.trans hel), hu⟩
  · obtain ⟨s', ht, hi, hu⟩ := h.other (fun e' => e (e'.trans hel))
    have e2 : rhoUp ρ o l = rhoUp ρ o n := by unfold rhoUp; rw [hel]
    have e3 : usesUp s.uses ρ o l = usesUp s.uses ρ o n := by unfold usesUp; rw [hel]
    rw [e2] at hi
    rw [e3] at hu
    have hne : ¬ ρ r = ρ o := by rw [h.rho, hel]; exact fun e' => e e'.symm
    have hne2 : ¬ ρ n = ρ o := fun e' => e e'.symm
    refine ⟨s'.setLink n r, ht.setLink hn r, hi.set h.vr ?_ ?_, hu⟩
    · unfold rkUp
      rw [if_neg hne, if_neg hne2]
      omega
    · unfold rhoUp
      rw [if_neg hne, if_neg hne2]
      exact h.rho.trans hel
/-- two symbols that stand for their groups -/
theorem Inv.join {V : Nat × Nat → Prop} {s : UF} {rk : Nat × Nat → Nat} {ρ : Nat × Nat → Nat × Nat} (h : Inv V s rk ρ) {M : Nat} (hM : ∀ x, V x → rk x < M) {o n : Nat × Nat} (ho : V o) (hn : V n) (hlo : s.link o = none) (hln : s.link n = none) (hne : o ≠ n) :
    Inv V (s.setLink o n) (rkUp rk ρ M o) (rhoUp ρ o n) := by
  have hro := h.root o ho hlo
  have hrn := h.root n hn hln
  constructor
  · intro z hz hl
    by_cases e : z = o
    · subst e; simp [UF.setLink] at hl
    · have hl' : s.link z = none := by simpa [UF.setLink, e] using hl
      have := h.root z hz hl'
      unfold rhoUp
      rw [if_neg (by rw [this, hro]; exact e), this]
  · intro z u hz hl
    by_cases e : z = o
    · subst e
      simp [UF.setLink] at hl
      subst hl
      refine ⟨hn, ?_, ?_⟩
      · unfold rkUp
        rw [if_neg (by rw [hrn, hro]; exact fun e' => hne e'.symm), if_pos rfl]
        have := hM n hn
        omega
      · unfold rhoUp
        rw [if_neg (by rw [hrn, hro]; exact fun e' => hne e'.symm), if_pos rfl]
    · have hl' : s.link z = some u := by simpa [UF.setLink, e] using hl
      obtain ⟨hu, hr, he⟩ := h.step z u hz hl'
      refine ⟨hu, ?_, ?_⟩
      · unfold rkUp
        rw [he]
        split <;> omega
      · unfold rhoUp
        rw [he]
end Go.Proofs.YtbkgbnejmgjiiaaDoor
