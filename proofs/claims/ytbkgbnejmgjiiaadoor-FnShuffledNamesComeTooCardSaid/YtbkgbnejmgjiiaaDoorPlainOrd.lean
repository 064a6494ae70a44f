/- How spec.Ordered takes characters, in plain terms. Conditions: codes below 64 that rise. -/
import Derived.Test.YtbkgbnejmgjiiaaDoorPlainShuf
namespace Go.Proofs.YtbkgbnejmgjiiaaDoor
open Go.RowKit Go.Deep

theorem sg_inj {i j : Nat} (hi : i < 64) (hj : j < 64) (h : sg i = sg j) : i = j := by
  have H : ∀ a b : Fin 64, sg a = sg b → a = b := by decide +kernel
  have := H ⟨i, hi⟩ ⟨j, hj⟩ h
  exact congrArg Fin.val this
theorem sg_pos {i : Nat} (hi : i < 64) : (sg i).toNat ≠ 0 := by
  have H : ∀ a : Fin 64, (sg a).toNat ≠ 0 := by decide +kernel
  exact H ⟨i, hi⟩
theorem sg_code {i : Nat} (hi : i < 64) : plc (tailB false).data.toList (sg i) = (i : Int) := by
  have H : ∀ a : Fin 64, plc (tailB false).data.toList (sg a) = ((a : Nat) : Int) := by decide +kernel
  exact H ⟨i, hi⟩
theorem sg_encode {i : Nat} (hi : i < 64) : Utf8.encode ((sg i).toNat : Int) = ⟨#[sg i]⟩ := by
  have H : ∀ a, a < 64 → (Utf8.encode ((sg a).toNat : Int)).data.toList = [sg a] := by decide +kernel
  have h1 := H i hi
  generalize Utf8.encode ((sg i).toNat : Int) = x at *
  exact ByteArray.ext (Array.toList_inj.1 h1)
/-- codes that were taken so far -/
structure Sel (C : Nat → Int) (K l : List Nat) : Prop where
  sub : ∀ x ∈ l, x ∈ K
  nd : l.Nodup
  pw : l.Pairwise (Rk C)
  rest : ∀ x ∈ l, ∀ y ∈ K, y ∉ l → Rk C x y
theorem Sel.none (C : Nat → Int) (K : List Nat) : Sel C K [] := ⟨fun x h => (by cases h), List.nodup_nil, List.Pairwise.nil, fun x h => (by cases h)⟩
theorem Sel.snoc {C : Nat → Int} {K l : List Nat} (h : Sel C K l) {b : Nat} (hb : b ∈ K) (hn : b ∉ l) (hr : ∀ y ∈ K, y ∉ l → Rk C b y) : Sel C K (l ++ [b]) where
  sub x hx := by
    rcases List.mem_append.1 hx with hx | hx
    · exact h.sub x hx
    · simp at hx; subst hx; exact hb
  nd := List.nodup_append.2 ⟨h.nd, by simp, fun a ha c hc e => by
    simp at hc
    subst hc
    subst e
    exact hn ha⟩
  pw := List.pairwise_append.2 ⟨h.pw, by simp, fun x hx y hy => by
    simp at hy
    subst hy
    exact h.rest x hx _ hb hn⟩
  rest x hx y hy hny := by
    have hny' : y ∉ l := fun h' => hny (List.mem_append_left _ h')
    rcases List.mem_append.1 hx with hx | hx
    · exact h.rest x hx y hy hny'
    · simp at hx; subst hx; exact hr y hy hny'
theorem perm_of_sub : ∀ (l K : List Nat), l.Nodup → (∀ x ∈ l, x ∈ K) → K.length ≤ l.length → l.Perm K
  | [], K, _, _, hl => by
    have : K = [] := List.eq_nil_of_length_eq_zero (by simpa using hl)
    rw [this]
  | a :: r, K, hn, hs, hl => by
    have ha : a ∈ K := hs a (List.mem_cons_self)
    have hp : K.Perm (a :: K.erase a) := List.perm_cons_erase ha
    have hn' := List.nodup_cons.1 hn
    have hr : ∀ x ∈ r, x ∈ K.erase a := fun x hx => (List.mem_erase_of_ne (fun e => hn'.1 (by rw [← e]; exact hx))).2 (hs x (List.mem_cons_of_mem _ hx))
    have hlen := hp.length_eq
    simp only [List.length_cons] at hlen hl
    exact ((perm_of_sub r (K.erase a) hn'.2 hr (by omega)).cons a).trans hp.symm
theorem len_of_sub : ∀ (l K : List Nat), l.Nodup → (∀ x ∈ l, x ∈ K) → l.length ≤ K.length
  | [], K, _, _ => Nat.zero_le _
  | a :: r, K, hn, hs => by
    have ha : a ∈ K := hs a (List.mem_cons_self)
    have hp : K.Perm (a :: K.erase a) := List.perm_cons_erase ha
    have hn' := List.nodup_cons.1 hn
    have hr : ∀ x ∈ r, x ∈ K.erase a := fun x hx => (List.mem_erase_of_ne (fun e => hn'.1 (by rw [← e]; exact hx))).2 (hs x (List.mem_cons_of_mem _ hx))
    have hlen := hp.length_eq
    have := len_of_sub r (K.erase a) hn'.2 hr
    simp only [List.length_cons] at hlen ⊢
    omega
theorem Sel.done {C : Nat → Int} {K l : List Nat} (h : Sel C K l) (hl : K.length ≤ l.length) : Ord C K (l.map sg) := ⟨l, perm_of_sub l K h.nd h.sub hl, h.pw, rfl⟩
/-- the best one so far -/
def Best (C : Nat → Int) (K l : List Nat) (i : Nat) : Option Nat → Prop
  | none => ∀ (j : Nat) (h : j < K.length), j < i → K[j]'h ∈ l
  | some b => b ∉ l ∧ (∃ (j : Nat) (h : j < K.length), j < i ∧ K[j]'h = b) ∧ ∀ (j : Nat) (h : j < K.length), j < i → K[j]'h ∉ l → Rk C b (K[j]'h)
theorem Best.start (C : Nat → Int) (K l : List Nat) : Best C K l 0 none := fun _ _ h => absurd h (Nat.not_lt_zero _)
theorem Best.skip {C : Nat → Int} {K l : List Nat} {i : Nat} {ob : Option Nat} (h : Best C K l i ob) (hi : i < K.length) (hc : K[i] ∈ l) : Best C K l (i + 1) ob := by
  cases ob with
  | none =>
    intro j hj hji
    by_cases e : j = i
    · subst e; exact hc
    · exact h j hj (by omega)
  | some b =>
    obtain ⟨h1, ⟨j, hj, hji, e⟩, h3⟩ := h
    refine ⟨h1, ⟨j, hj, by omega, e⟩, fun j hj hji hn => ?_⟩
    by_cases e : j = i
    · subst e; exact absurd hc hn
    · exact h3 j hj (by omega) hn
theorem Best.first {C : Nat → Int} {K l : List Nat} {i : Nat} (h : Best C K l i none) (hi : i < K.length) (hc : K[i] ∉ l) : Best C K l (i + 1) (some K[i]) := by
  refine ⟨hc, ⟨i, hi, by omega, rfl⟩, fun j hj hji hn => ?_⟩
  by_cases e : j = i
  · subst e; exact Or.inr ⟨rfl, Nat.le_refl _⟩
  · exact absurd (h j hj (by omega)) hn
theorem Best.more {C : Nat → Int} {K l : List Nat} {i b : Nat} (h : Best C K l i (some b)) (hi : i < K.length) (hc : K[i] ∉ l) (hm : C b < C K[i]) : Best C K l (i + 1) (some K[i]) := by
  refine ⟨hc, ⟨i, hi, by omega, rfl⟩, fun j hj hji hn => ?_⟩
  by_cases e : j = i
  · subst e; exact Or.inr ⟨rfl, Nat.le_refl _⟩
  · have := h.2.2 j hj (by omega) hn
    unfold Rk at *
    omega
theorem Best.less {C : Nat → Int} {K l : List Nat} {i b : Nat} (h : Best C K l i (some b)) (hK : K.Pairwise (· < ·)) (hi : i < K.length) (hm : ¬ C b < C K[i]) : Best C K l (i + 1) (some b) := by
  obtain ⟨h1, ⟨j, hj, hji, e⟩, h3⟩ := h
  refine ⟨h1, ⟨j, hj, by omega, e⟩, fun j' hj' hji' hn => ?_⟩
  by_cases e' : j' = i
  · subst e'
    have : K[j] < K[j'] := List.pairwise_iff_getElem.1 hK j j' hj hj' hji
    unfold Rk
    omega
  · exact h3 j' hj' (by omega) hn
theorem Best.sel {C : Nat → Int} {K l : List Nat} {ob : Option Nat} (hK : K.Nodup) (hs : Sel C K l) (hl : l.length < K.length) (h : Best C K l K.length ob) : ∃ b, ob = some b ∧ b ∈ K ∧ Sel C K (l ++ [b]) := by
  cases ob with
  | none =>
    exfalso
    have := len_of_sub K l hK (fun x hx => by
      obtain ⟨j, hj, rfl⟩ := List.getElem_of_mem hx
      exact h j hj hj)
    omega
  | some b =>
    obtain ⟨h1, ⟨j, hj, _, e⟩, h3⟩ := h
    have hb : b ∈ K := by rw [← e]; exact List.getElem_mem _
    refine ⟨b, rfl, hb, hs.snoc hb h1 (fun y hy hn => ?_)⟩
    obtain ⟨j', hj', rfl⟩ := List.getElem_of_mem hy
    exact h3 j' hj' hj' hn
def bv : Option Nat → Nat
  | none => 0
  | some b => (sg b).toNat
def strLen : Value → Nat
  | .string b => b.size
  | _ => 0
theorem mem_sg {l : List Nat} {c : Nat} (hl : ∀ x ∈ l, x < 64) (hc : c < 64) : sg c ∈ l.map sg ↔ c ∈ l := by
  constructor
  · intro h
    obtain ⟨x, hx, e⟩ := List.mem_map.1 h
    have := sg_inj (hl x hx) hc e
    rw [← this]; exact hx
  · exact fun h => List.mem_map.2 ⟨c, h, rfl⟩
end Go.Proofs.YtbkgbnejmgjiiaaDoor
