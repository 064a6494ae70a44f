/- Places and numbers of symbols, groups and uses, in plain terms. Conditions: each lemma names its own. -/
import Derived.Test.YtbkgbnejmgjiiaaDoorWMerge
namespace Go.Proofs.YtbkgbnejmgjiiaaDoor
open Go.RowKit

/-- sizes that are no more than 3000 in all -/
def okSizes (l : List Int) : Prop := (∀ x ∈ l, 0 ≤ x) ∧ l.sum ≤ 3000
def okSteps (n : Int) (l : List (Int × Int)) : Prop := ∀ s ∈ l, 0 ≤ s.1 ∧ s.1 < n ∧ s.2 < n
def okUses (l : List Int) : Prop := ∀ x ∈ l, 0 ≤ x ∧ x ≤ 1000000
theorem sum_nonneg {l : List Int} (h : ∀ x ∈ l, 0 ≤ x) : 0 ≤ l.sum := by
  induction l with
  | nil => simp
  | cons x r ih =>
    rw [List.sum_cons]
    have h1 := h x (by simp)
    have h2 := ih (fun y hy => h y (by simp [hy]))
    omega
theorem sum_take_succ (l : List Int) (k : Nat) (h : k < l.length) : (l.take (k + 1)).sum = (l.take k).sum + l[k] := by
  rw [List.take_succ_eq_append_getElem h, List.sum_append]
  simp
theorem nsum_take_succ (l : List Nat) (k : Nat) (h : k < l.length) : (l.take (k + 1)).sum = (l.take k).sum + l[k] := by
  rw [List.take_succ_eq_append_getElem h, List.sum_append]
  simp
theorem sum_take_le {l : List Int} (h : ∀ x ∈ l, 0 ≤ x) (k : Nat) : (l.take k).sum ≤ l.sum := by
  have e : (l.take k).sum + (l.drop k).sum = l.sum := by rw [← List.sum_append, List.take_append_drop]
  have := sum_nonneg (l := l.drop k) (fun x hx => h x (List.mem_of_mem_drop hx))
  omega
theorem nsum_take_le (l : List Nat) (k : Nat) : (l.take k).sum ≤ l.sum := by
  have e : (l.take k).sum + (l.drop k).sum = l.sum := by rw [← List.sum_append, List.take_append_drop]
  omega
/-- sizes as natural numbers -/
def natsOf (l : List Int) : List Nat := l.map Int.toNat
theorem natsOf_back {l : List Int} (h : ∀ x ∈ l, 0 ≤ x) : l = (natsOf l).map (fun n : Nat => (n : Int)) := by
  unfold natsOf
  rw [List.map_map]
  refine (List.map_id l).symm.trans (List.map_congr_left (fun x hx => ?_))
  have := h x hx
  simp only [id, Function.comp]
  omega
theorem sum_cast (l : List Nat) : (l.map (fun n : Nat => (n : Int))).sum = ((l.sum : Nat) : Int) := by
  induction l with
  | nil => rfl
  | cons x r ih => rw [List.map_cons, List.sum_cons, List.sum_cons, ih]; omega

/-- the place with a number, the number of a place -/
def pl : List Nat → Nat → Nat × Nat
  | [], i => (0, i)
  | s :: r, i => if i < s then (0, i) else ((pl r (i - s)).1 + 1, (pl r (i - s)).2)
def numOf (sz : List Nat) (x : Nat × Nat) : Nat := (sz.take x.1).sum + x.2
def Vz (sz : List Nat) (x : Nat × Nat) : Prop := x.1 < sz.length ∧ x.2 < sz.getD x.1 0
theorem pl_V : ∀ (sz : List Nat) (i : Nat), i < sz.sum → Vz sz (pl sz i) ∧ numOf sz (pl sz i) = i
  | [], i, h => by simp at h
  | s :: r, i, h => by
    rw [List.sum_cons] at h
    by_cases hi : i < s
    · simp [pl, hi, Vz, numOf]
    · have ih := pl_V r (i - s) (by omega)
      have e : pl (s :: r) i = ((pl r (i - s)).1 + 1, (pl r (i - s)).2) := by simp [pl, hi]
      rw [e]
      generalize pl r (i - s) = q at *
      obtain ⟨⟨h1, h2⟩, h3⟩ := ih
      refine ⟨⟨by simp only [List.length_cons]; omega, by simpa using h2⟩, ?_⟩
      simp only [numOf, List.take_succ_cons, List.sum_cons] at h3 ⊢
      omega
theorem num_V : ∀ (sz : List Nat) (f j : Nat), Vz sz (f, j) → numOf sz (f, j) < sz.sum ∧ pl sz (numOf sz (f, j)) = (f, j)
  | [], f, j, h => by simp [Vz] at h
  | s :: r, 0, j, h => by
    have hj : j < s := by simpa [Vz] using h
    have e : numOf (s :: r) (0, j) = j := by simp [numOf]
    rw [e, List.sum_cons]
    exact ⟨by omega, by simp [pl, hj]⟩
  | s :: r, f + 1, j, h => by
    have h' : Vz r (f, j) := by simpa [Vz] using h
    obtain ⟨h1, h2⟩ := num_V r f j h'
    have e : numOf (s :: r) (f + 1, j) = s + numOf r (f, j) := by simp only [numOf, List.take_succ_cons, List.sum_cons]; omega
    rw [e, List.sum_cons]
    have hlt : ¬ s + numOf r (f, j) < s := by omega
    have he : s + numOf r (f, j) - s = numOf r (f, j) := by omega
    refine ⟨by omega, ?_⟩
    show (if s + numOf r (f, j) < s then _ else _) = _
    rw [if_neg hlt, he, h2]
theorem pl_inj {sz : List Nat} {i j : Nat} (hi : i < sz.sum) (hj : j < sz.sum) (h : pl sz i = pl sz j) : i = j := by
  rw [← (pl_V sz i hi).2, ← (pl_V sz j hj).2, h]

/-- which symbol stands for each one, and how many uses each has -/
structure St where
  g : Nat → Nat
  u : Nat → Nat
def St.merge (st : St) (a b : Nat) : St :=
  if st.g a = st.g b then st else ⟨fun i => if st.g i = st.g a then st.g b else st.g i, fun i => if i = st.g b then st.u (st.g b) + st.u (st.g a) else st.u i⟩
def St.step (st : St) (p : Int × Int) : St := if p.2 < 0 then st else st.merge p.1.toNat p.2.toNat
def St.run (st : St) (l : List (Int × Int)) : St := l.foldl St.step st
theorem St.run_snoc (st : St) (l : List (Int × Int)) (k : Nat) (h : k < l.length) : st.run (l.take (k + 1)) = (st.run (l.take k)).step l[k] := by
  unfold St.run
  rw [List.take_succ_eq_append_getElem h, List.foldl_append]
  rfl
theorem St.merge_g (st : St) (a b i : Nat) : (st.merge a b).g i = if st.g i = st.g a then st.g b else st.g i := by
  unfold St.merge
  split
  · rename_i h
    split
    · rename_i h2; rw [h2, h]
    · rfl
  · rfl
/-- merges alone -/
theorem St.run_merges (l : List (Int × Int)) : ∀ st : St, st.run (l.filter fun p => decide (0 ≤ p.2)) = st.run l := by
  induction l with
  | nil => intro st; rfl
  | cons p r ih =>
    intro st
    by_cases h : 0 ≤ p.2
    · rw [List.filter_cons_of_pos (by simpa using h)]
      exact ih (st.step p)
    · rw [List.filter_cons_of_neg (by simpa using h)]
      have e : st.step p = st := by unfold St.step; rw [if_pos (by omega)]
      show _ = (st.step p).run r
      rw [e]
      exact ih st

/-- how many uses a group has together -/
def usum : Nat → (Nat → Nat) → (Nat → Nat) → Nat → Nat
  | 0, _, _, _ => 0
  | n + 1, u0, g, r => usum n u0 g r + if g n = r then u0 n else 0
theorem usum_le (K n : Nat) (u0 g : Nat → Nat) (hu : ∀ i, u0 i ≤ K) (r : Nat) : usum n u0 g r ≤ n * K := by
  induction n with
  | zero => simp [usum]
  | succ n ih =>
    have := hu n
    rw [usum, Nat.succ_mul]
    split <;> omega
theorem usum_two (K n : Nat) (u0 g : Nat → Nat) (hu : ∀ i, u0 i ≤ K) (r t : Nat) (h : r ≠ t) : usum n u0 g r + usum n u0 g t ≤ n * K := by
  induction n with
  | zero => simp [usum]
  | succ n ih =>
    have := hu n
    rw [usum, usum, Nat.succ_mul]
    by_cases h1 : g n = r
    · rw [if_pos h1, if_neg (by omega)]; omega
    · rw [if_neg h1]; split <;> omega
theorem usum_join (n : Nat) (u0 g : Nat → Nat) (a b r : Nat) (h : a ≠ b) : usum n u0 (fun i => if g i = a then b else g i) r = if r = b then usum n u0 g b + usum n u0 g a else if r = a then 0 else usum n u0 g r := by
  induction n with
  | zero => simp [usum]
  | succ n ih =>
    simp only [usum, ih]
    by_cases hb : r = b
    · subst hb
      simp only [if_true]
      by_cases h1 : g n = a
      · have h2 : g n ≠ r := by omega
        simp [h1, h]; omega
      · simp [h1]; omega
    · simp only [if_neg hb]
      by_cases ha : r = a
      · subst ha
        by_cases h1 : g n = r
        · simp [h1, Ne.symm h]
        · simp [h1]
      · simp only [if_neg ha]
        by_cases h1 : g n = a
        · have h2 : ¬ a = r := fun e => ha e.symm
          have h3 : ¬ b = r := fun e => hb e.symm
          simp [h1, h2, h3]
        · simp [h1]

/-- groups as they should be -/
structure Good (n : Nat) (u0 : Nat → Nat) (st : St) : Prop where
  lt : ∀ i, i < n → st.g i < n
  idem : ∀ i, i < n → st.g (st.g i) = st.g i
  uses : ∀ r, r < n → st.g r = r → st.u r = usum n u0 st.g r
theorem usum_id (n : Nat) (u0 : Nat → Nat) (r : Nat) : usum n u0 id r = if r < n then u0 r else 0 := by
  induction n with
  | zero => simp [usum]
  | succ n ih =>
    simp only [usum, ih, id]
    by_cases h : n = r
    · subst h; simp
    · rw [if_neg h]
      by_cases h2 : r < n
      · rw [if_pos h2, if_pos (by omega)]; omega
      · rw [if_neg h2, if_neg (by omega)]
theorem Good.start (n : Nat) (u0 : Nat → Nat) : Good n u0 ⟨id, u0⟩ :=
  ⟨fun _ h => h, fun _ _ => rfl, fun r hr _ => by show u0 r = usum n u0 id r; rw [usum_id, if_pos hr]⟩
theorem Good.merge {n : Nat} {u0 : Nat → Nat} {st : St} (h : Good n u0 st) {a b : Nat} (ha : a < n) (hb : b < n) : Good n u0 (st.merge a b) := by
  unfold St.merge
  split
  · exact h
  · rename_i hne
    have hga := h.lt a ha
    have hgb := h.lt b hb
    have ia := h.idem a ha
    have ib := h.idem b hb
    constructor
    · intro i hi
      simp only
      split
      · exact hgb
      · exact h.lt i hi
    · intro i hi
      simp only
      by_cases h1 : st.g i = st.g a
      · rw [if_pos h1, ib]
        split
        · rfl
        · rfl
      · rw [if_neg h1, h.idem i hi, if_neg h1]
    · intro r hr hroot
      simp only at hroot ⊢
      rw [usum_join n u0 st.g _ _ r hne]
      by_cases h1 : r = st.g b
      · rw [if_pos h1, if_pos h1, h.uses _ hgb ib, h.uses _ hga ia]
      · rw [if_neg h1, if_neg h1]
        have hra : st.g r ≠ st.g a := by
          intro e
          rw [if_pos e] at hroot
          exact h1 hroot.symm
        rw [if_neg hra] at hroot
        rw [if_neg (by rw [← hroot]; exact hra)]
        exact h.uses r hr hroot
theorem Good.step {n : Nat} {u0 : Nat → Nat} {st : St} (h : Good n u0 st) {p : Int × Int} (hp : 0 ≤ p.1 ∧ p.1 < n ∧ p.2 < n) : Good n u0 (st.step p) := by
  unfold St.step
  split
  · exact h
  · exact h.merge (by omega) (by omega)
theorem Good.run {n : Nat} {u0 : Nat → Nat} : ∀ {l : List (Int × Int)} {st : St}, Good n u0 st → okSteps n l → Good n u0 (st.run l)
  | [], _, h, _ => h
  | p :: r, _, h, hl => Good.run (l := r) (h.step (hl p (by simp))) (fun s hs => hl s (by simp [hs]))
/-- groups only grow -/
theorem St.run_keep : ∀ (l : List (Int × Int)) (st : St) (i j : Nat), st.g i = st.g j → (st.run l).g i = (st.run l).g j
  | [], _, _, _, h => h
  | p :: r, st, i, j, h => by
    refine St.run_keep r (st.step p) i j ?_
    unfold St.step
    split
    · exact h
    · rw [St.merge_g, St.merge_g, h]
end Go.Proofs.YtbkgbnejmgjiiaaDoor
