/- A region that draws its order, by an invariant: whatever operation is ready, its step keeps the invariant; when all have been done the invariant gives what follows. No condition beyond the hypotheses of each lemma. -/
import Derived.Orders
import Derived.Tactics
namespace Go.Proofs.YtbkgbnejmgjiiaaDoor
open Go

section
variable {P : Program} {ops : Array Oper} {Q : Exit → Act → World → Prop} {a : Act} {w : World}

theorem letsOut_then {K : Act → World → Prop} (h : LetsOut (Exit.then K Q)) : LetsOut Q := h

theorem upon_then {o : Oper} {K : Act → World → Prop} {r : Result Next} (h : o.upon P a (wpList P ops (Exit.then K Q) []) (Exit.then K Q) r) : o.upon P a K Q r := by
  cases r with
  | ok n w' =>
    cases n with
    | enter f args =>
      refine Calls.mono h fun e w'' he => ?_
      cases e with
      | returned v => exact he
      | panicked c => exact he
      | outgrown => exact letsOut_then he
    | _ => exact h
  | halt x w' => cases x <;> exact h

theorem wpOp_of_list {i : Nat} {o : Oper} {K : Act → World → Prop} (hi : ops[i]? = some o) (h : wpList P ops (Exit.then K Q) [o] a w) : wpOp P ops Q i K a w := by
  unfold wpOp
  simp only [hi]
  unfold wpList at h
  split
  · rename_i hw
    rw [if_pos hw] at h
    rcases h with h | ⟨h1, h2⟩
    · exact .inl (upon_then h)
    · exact .inr ⟨h1, letsOut_then h2⟩
  · rename_i hw
    rw [if_neg hw] at h
    exact h

/-- how many operations are still to be done -/
def leftOver (n : Nat) (L : Nat → Bool) : Nat := ((List.range n).filter fun i => !L i).length

/-- the operations that have been done, one more -/
def doneToo (L : Nat → Bool) (i : Nat) : Nat → Bool := fun j => if j = i then true else L j

/-- edges go back -/
def edgesBack (ops : Array Oper) : Bool := (List.range ops.size).all fun i => match ops[i]? with
  | some o => o.after.all fun e => decide (e.on < i)
  | none => true

theorem edgesBack_spec (h : edgesBack ops = true) {i : Nat} {o : Oper} (hi : ops[i]? = some o) : ∀ e ∈ o.after, e.on < i := by
  intro e he
  have hlt : i < ops.size := (Array.getElem?_eq_some_iff.1 hi).1
  have h1 := List.all_eq_true.1 h i (List.mem_range.2 hlt)
  simp only [hi] at h1
  have h2 := Array.all_eq_true_iff_forall_mem.1 h1 e he
  simpa using h2

theorem leftOver_zero {n : Nat} {L : Nat → Bool} (h : leftOver n L = 0) : ∀ i, i < n → L i = true := by
  intro i hi
  unfold leftOver at h
  have h1 := List.eq_nil_of_length_eq_zero h
  cases hL : L i with
  | true => rfl
  | false =>
    have : i ∈ (List.range n).filter fun i => !L i := List.mem_filter.2 ⟨List.mem_range.2 hi, by simp [hL]⟩
    rw [h1] at this
    cases this

theorem leftOver_done {n : Nat} {L : Nat → Bool} {i : Nat} (hi : i < n) (hL : L i = false) : leftOver n (doneToo L i) < leftOver n L := by
  unfold leftOver
  have e : ((List.range n).filter fun j => !doneToo L i j) = ((List.range n).filter fun j => !L j).filter fun j => decide (j ≠ i) := by
    rw [List.filter_filter]
    apply List.filter_congr
    intro j _
    unfold doneToo
    by_cases hj : j = i <;> simp [hj]
  rw [e]
  have hm : i ∈ (List.range n).filter fun j => !L j := List.mem_filter.2 ⟨List.mem_range.2 hi, by simp [hL]⟩
  exact List.length_filter_lt_length_iff_exists.2 ⟨i, hm, by simp⟩

theorem wpAny_inv (I : (Nat → Bool) → Act → World → Prop)
    (hs : ∀ (i : Nat) (o : Oper) (L : Nat → Bool) (a : Act) (w : World), ops[i]? = some o → L i = false → (∀ e ∈ o.after, Region.binds .any e = true → L e.on = true) → I L a w → wpList P ops (Exit.then (I (doneToo L i)) Q) [o] a w)
    (he : ∀ L a w, Region.ready .any ops (Array.ofFn (n := ops.size) fun i => L i) = [] → I L a w → Q .normal a w) :
    ∀ (fuel : Nat) (L : Nat → Bool) (a : Act) (w : World), leftOver ops.size L ≤ fuel → I L a w → wpAny P .any ops Q fuel (Array.ofFn (n := ops.size) fun i => L i) a w := by
  have hget : ∀ (L : Nat → Bool) (i : Nat) (d : Bool), i < ops.size → (Array.ofFn (n := ops.size) fun i => L i).getD i d = L i := by
    intro L i d hi
    simp [Array.getD, hi]
  have hready : ∀ (L : Nat → Bool) i, i ∈ Region.ready .any ops (Array.ofFn (n := ops.size) fun i => L i) → ∃ o, ops[i]? = some o ∧ i < ops.size ∧ L i = false ∧ ∀ e ∈ o.after, Region.binds .any e = true → L e.on = true := by
    intro L i hi
    obtain ⟨h0, o, ho, h1⟩ := mem_ready.1 hi
    have hlt : i < ops.size := (Array.getElem?_eq_some_iff.1 ho).1
    rw [hget L i true hlt] at h0
    refine ⟨o, ho, hlt, h0, fun e hee hb => ?_⟩
    have h2 := h1 e hee hb
    rcases Nat.lt_or_ge e.on ops.size with h | h
    · rw [hget L _ _ h] at h2; exact h2
    · simp [Array.getD, Nat.not_lt.2 h] at h2
  intro fuel
  induction fuel with
  | zero =>
    intro L a w hl hI
    have hall := leftOver_zero (Nat.le_zero.1 hl)
    have hnil : Region.ready .any ops (Array.ofFn (n := ops.size) fun i => L i) = [] := by
      apply List.eq_nil_iff_forall_not_mem.2
      intro i hi
      obtain ⟨_, _, hlt, h0, _⟩ := hready L i hi
      rw [hall i hlt] at h0
      cases h0
    exact ⟨hnil, he L a w hnil hI⟩
  | succ fuel ih =>
    intro L a w hl hI
    refine ⟨fun h => he L a w h hI, fun i hi => ?_⟩
    obtain ⟨o, ho, hlt, h0, h1⟩ := hready L i hi
    refine wpOp_mono (fun a' w' h => ?_) (wpOp_of_list ho (hs i o L a w ho h0 h1 hI))
    have e : (Array.ofFn (n := ops.size) fun i => L i).setIfInBounds i true = Array.ofFn (n := ops.size) fun j => doneToo L i j := by
      apply Array.ext
      · simp
      · intro j hj hj2
        have hj3 : j < ops.size := by simpa using hj2
        by_cases hij : i = j
        · subst hij; simp [doneToo]
        · rw [Array.getElem_setIfInBounds_ne (by simpa using hj3) hij]
          simp [doneToo]
          exact fun h => absurd h.symm hij
    rw [e]
    exact ih _ a' w' (by have := leftOver_done hlt h0; omega) h

/-- the law -/
theorem wp_region_inv {id : Nat} (hm : P.follows .mixedOrders = true) (hback : edgesBack ops = true) (I : (Nat → Bool) → Act → World → Prop)
    (hcong : ∀ L L' a w, (∀ i, i < ops.size → L i = L' i) → I L a w → I L' a w)
    (h0 : I (fun _ => false) a w.drew)
    (hs : ∀ (i : Nat) (o : Oper) (L : Nat → Bool) (a : Act) (w : World), ops[i]? = some o → L i = false → (∀ e ∈ o.after, Region.binds .any e = true → L e.on = true) → I L a w → wpList P ops (Exit.then (I (doneToo L i)) Q) [o] a w)
    (he : ∀ a w, I (fun _ => true) a w → Q .normal a w) : (Code.region id ops true).wp P Q a w := by
  refine wp_region_any hm ?_
  have e : (Array.replicate ops.size false) = Array.ofFn (n := ops.size) fun _ => false := by
    apply Array.ext
    · simp
    · intro j _ _; simp
  rw [e]
  refine wpAny_inv (L := fun _ => false) I hs ?_ ops.size a _ ?_ h0
  · intro L a w hr hI
    refine he a w (hcong L _ a w ?_ hI)
    intro i
    induction i using Nat.strongRecOn with
    | ind i ih =>
      intro hi
      cases hL : L i with
      | true => rfl
      | false =>
        exfalso
        have ho : ops[i]? = some ops[i] := Array.getElem?_eq_getElem hi
        have hmem : i ∈ Region.ready .any ops (Array.ofFn (n := ops.size) fun i => L i) := by
          refine mem_ready.2 ⟨by simp [Array.getD, hi, hL], ops[i], ho, fun e hee _ => ?_⟩
          have hlt := edgesBack_spec hback ho e hee
          have hl : e.on < ops.size := by omega
          have := ih e.on hlt hl
          simp [Array.getD, hl, this]
        rw [hr] at hmem
        cases hmem
  · unfold leftOver
    refine Nat.le_trans (List.length_filter_le _ _) ?_
    simp
end
end Go.Proofs.YtbkgbnejmgjiiaaDoor
