/- The order of characters, in plain terms: those that were counted more often first, of as many in the order that they have. Conditions: each lemma names its own. -/
import Derived.Test.YtbkgbnejmgjiiaaDoorWShuf
namespace Go.Proofs.YtbkgbnejmgjiiaaDoor
open Go.Sort

/-- the sign with a code -/
def sg (i : Nat) : UInt8 := (tlL false).getD i 0
/-- a sign with which names begin -/
def hdc (c : UInt8) : Bool := decide (c < 48) || decide (57 < c)
/-- counted more often, or as often and not later -/
def Rk (C : Nat → Int) (i j : Nat) : Prop := C j < C i ∨ (C i = C j ∧ i ≤ j)
theorem Rk.anti {C : Nat → Int} {i j : Nat} (h1 : Rk C i j) (h2 : Rk C j i) : i = j := by unfold Rk at *; omega
/-- codes in order, as signs -/
def Ord (C : Nat → Int) (K : List Nat) (r : List UInt8) : Prop := ∃ l : List Nat, l.Perm K ∧ l.Pairwise (Rk C) ∧ r = l.map sg
theorem perm_uniq {R : Nat → Nat → Prop} (ha : ∀ i j, R i j → R j i → i = j) : ∀ (l m : List Nat), l.Perm m → l.Pairwise R → m.Pairwise R → l = m
  | [], m, hp, _, _ => (List.Perm.nil_eq hp)
  | a :: l, [], hp, _, _ => by have := hp.length_eq; simp at this
  | a :: l, b :: m, hp, h1, h2 => by
    have hab : a = b := by
      rcases List.mem_cons.1 ((hp.mem_iff).1 (List.mem_cons_self (a := a) (l := l))) with h | h
      · exact h
      · rcases List.mem_cons.1 ((hp.mem_iff).2 (List.mem_cons_self (a := b) (l := m))) with h' | h'
        · exact h'.symm
        · exact ha a b ((List.pairwise_cons.1 h1).1 b h') ((List.pairwise_cons.1 h2).1 a h)
    subst hab
    rw [perm_uniq ha l m (List.Perm.cons_inv hp) (List.pairwise_cons.1 h1).2 (List.pairwise_cons.1 h2).2]
theorem Ord.uniq {C : Nat → Int} {K : List Nat} {r s : List UInt8} (h1 : Ord C K r) (h2 : Ord C K s) : r = s := by
  obtain ⟨l, a1, a2, rfl⟩ := h1
  obtain ⟨m, b1, b2, rfl⟩ := h2
  rw [perm_uniq (fun i j => Rk.anti) l m (a1.trans b1.symm) a2 b2]
theorem Ord.congr {C D : Nat → Int} {K : List Nat} {r : List UInt8} (h : Ord C K r) (he : ∀ i ∈ K, C i = D i) : Ord D K r := by
  obtain ⟨l, a1, a2, rfl⟩ := h
  refine ⟨l, a1, a2.imp_of_mem (fun hi hj hr => ?_), rfl⟩
  have e1 := he _ ((a1.mem_iff).1 hi)
  have e2 := he _ ((a1.mem_iff).1 hj)
  unfold Rk at *
  omega
theorem Ord.same {C : Nat → Int} {K : List Nat} (hK : K.Pairwise (· < ·)) (hc : ∀ i ∈ K, ∀ j ∈ K, C i = C j) : Ord C K (K.map sg) :=
  ⟨K, List.Perm.refl _, hK.imp_of_mem (fun hi hj hr => Or.inr ⟨hc _ hi _ hj, by omega⟩), rfl⟩
theorem Ord.length {C : Nat → Int} {K : List Nat} {r : List UInt8} (h : Ord C K r) : r.length = K.length := by
  obtain ⟨l, a1, _, rfl⟩ := h
  rw [List.length_map, a1.length_eq]
theorem Ord.mem {C : Nat → Int} {K : List Nat} {r : List UInt8} (h : Ord C K r) (c : UInt8) : c ∈ r ↔ c ∈ K.map sg := by
  obtain ⟨l, a1, _, rfl⟩ := h
  exact (a1.map sg).mem_iff
/-- codes of characters with which names go on, and begin -/
def tlK (css : Bool) : List Nat := List.range (if css then 63 else 64)
def hdK (css : Bool) : List Nat := (tlK css).filter fun i => hdc (sg i)
theorem tlK_map (css : Bool) : (tlK css).map sg = tlL css := by cases css <;> decide +kernel
theorem hdK_map (css : Bool) : (hdK css).map sg = hdL css := by cases css <;> decide +kernel
theorem tlK_lt (css : Bool) : ∀ i ∈ tlK css, i < 64 := by cases css <;> decide +kernel
theorem hdK_lt (css : Bool) : ∀ i ∈ hdK css, i < 64 := by cases css <;> decide +kernel
theorem tlK_up (css : Bool) : (tlK css).Pairwise (· < ·) := List.pairwise_lt_range
theorem hdK_up (css : Bool) : (hdK css).Pairwise (· < ·) := List.Pairwise.filter _ List.pairwise_lt_range
theorem tlL_len (css : Bool) : (tlL css).length = if css then 63 else 64 := by cases css <;> decide +kernel
theorem tlL_getD (css : Bool) : ∀ i, i < (tlL css).length → (tlL css).getD i 0 = sg i := by
  intro i hi
  have h : ∀ n : Fin (tlL css).length, (tlL css).getD n 0 = sg n := by cases css <;> decide +kernel
  exact h ⟨i, hi⟩

/-! from the sorted array -/
theorem isHead_one (c : UInt8) : isHead ⟨#[c]⟩ = hdc c := by
  have h : ∀ n : Fin 256, isHead ⟨#[UInt8.ofNat n]⟩ = hdc (UInt8.ofNat n) := by decide +kernel
  have := h ⟨c.toNat, c.toNat_lt⟩
  simpa using this
/-- an element is a character with its count and index, or empty -/
def GoodCh (ts : List UInt8) (F : Nat → Int) (x : Ch) : Prop := (x.2.2 < ts.length ∧ x = (⟨#[ts.getD x.2.2 0]⟩, F x.2.2, x.2.2)) ∨ x = (⟨#[]⟩, 0, 0)
def full (x : Ch) : Bool := x.1.size == 1
theorem tail_good {ts : List UInt8} {F : Nat → Int} : ∀ (L : List Ch), (∀ x ∈ L, GoodCh ts F x) → tailOf L = ((L.filter full).map (·.2.2)).map (ts.getD · 0)
  | [], _ => rfl
  | x :: r, h => by
    have ih := tail_good r (fun y hy => h y (List.mem_cons_of_mem _ hy))
    have e : tailOf (x :: r) = x.1.data.toList ++ tailOf r := by simp [tailOf]
    rw [e, ih]
    rcases h x (List.mem_cons_self) with ⟨_, hx⟩ | hx
    · have hf : full x = true := by rw [hx]; rfl
      have h1 : x.1.data.toList = [ts.getD x.2.2 0] := by rw [congrArg Prod.fst hx]
      rw [List.filter_cons_of_pos hf, List.map_cons, List.map_cons, h1]
      rfl
    · have hf : full x = false := by rw [hx]; rfl
      have h1 : x.1.data.toList = [] := by rw [congrArg Prod.fst hx]
      rw [List.filter_cons_of_neg (by simpa using hf), h1]
      rfl
theorem head_good {ts : List UInt8} {F : Nat → Int} : ∀ (L : List Ch), (∀ x ∈ L, GoodCh ts F x) → headOf L = (((L.filter full).map (·.2.2)).filter fun i => hdc (ts.getD i 0)).map (ts.getD · 0)
  | [], _ => rfl
  | x :: r, h => by
    have ih := head_good r (fun y hy => h y (List.mem_cons_of_mem _ hy))
    have e : headOf (x :: r) = (if isHead x.1 = true then x.1.data.toList else []) ++ headOf r := by simp [headOf]
    rw [e, ih]
    rcases h x (List.mem_cons_self) with ⟨_, hx⟩ | hx
    · have hi : isHead x.1 = hdc (ts.getD x.2.2 0) := by
        have h1 : x.1 = ⟨#[ts.getD x.2.2 0]⟩ := congrArg Prod.fst hx
        rw [h1, isHead_one]
      have hf : full x = true := by rw [hx]; rfl
      have h1 : x.1.data.toList = [ts.getD x.2.2 0] := by rw [congrArg Prod.fst hx]
      rw [List.filter_cons_of_pos hf, List.map_cons, hi, h1]
      cases hd : hdc (ts.getD x.2.2 0) with
      | true => rw [List.filter_cons_of_pos (by simpa using hd)]; simp
      | false => rw [List.filter_cons_of_neg (by simpa using hd)]; simp
    · have hf : full x = false := by rw [hx]; rfl
      have h1 : x.1.data.toList = [] := by rw [congrArg Prod.fst hx]
      rw [List.filter_cons_of_neg (by simpa using hf), h1]
      split <;> simp
theorem arCh_list (ts : List UInt8) (F : Nat → Int) (k : Nat) : (arCh ts F k).toList = (List.range 64).map (elCh ts F k) := by
  apply List.ext_getElem
  · simp [arCh]
  · intro i h1 h2
    simp only [List.getElem_map, List.getElem_range, arCh, Array.getElem_toList, Array.getElem_ofFn]
theorem el_good (ts : List UInt8) (F : Nat → Int) (j : Nat) : GoodCh ts F (elCh ts F ts.length j) := by
  unfold elCh GoodCh
  by_cases h : j < ts.length
  · rw [if_pos h]; exact Or.inl ⟨h, rfl⟩
  · rw [if_neg h]; exact Or.inr rfl
theorem filter_range (m n : Nat) (h : m ≤ n) : (List.range n).filter (fun j => decide (j < m)) = List.range m := by
  obtain ⟨k, rfl⟩ : ∃ k, n = m + k := ⟨n - m, by omega⟩
  rw [List.range_add, List.filter_append]
  have h1 : (List.range m).filter (fun j => decide (j < m)) = List.range m := List.filter_eq_self.2 (fun a ha => by simpa using ha)
  have h2 : ((List.range k).map (m + ·)).filter (fun j => decide (j < m)) = [] := List.filter_eq_nil_iff.2 (fun a ha => by
    obtain ⟨b, _, rfl⟩ := List.mem_map.1 ha
    simp)
  rw [h1, h2, List.append_nil]
theorem ar_idx (ts : List UInt8) (F : Nat → Int) (hm : ts.length ≤ 64) : (((arCh ts F ts.length).toList).filter full).map (·.2.2) = List.range ts.length := by
  rw [arCh_list, List.filter_map, List.map_map]
  have e : (List.range 64).filter (full ∘ elCh ts F ts.length) = (List.range 64).filter (fun j => decide (j < ts.length)) := List.filter_congr (fun j _ => by
    simp only [Function.comp]
    unfold elCh
    by_cases h : j < ts.length
    · rw [if_pos h, decide_eq_true h]; rfl
    · rw [if_neg h, decide_eq_false h]; rfl)
  rw [e, filter_range _ _ hm]
  refine (List.map_congr_left (fun j hj => ?_)).trans (List.map_id _)
  have hj' : j < ts.length := by simpa using hj
  simp [elCh, hj']
theorem ord_of {ts : List UInt8} {F : Nat → Int} {d : Array Ch} (hm : ts.length ≤ 64) (hsg : ∀ i, i < ts.length → ts.getD i 0 = sg i) (hp : PermIn 0 64 (arCh ts F ts.length) d) (hs : SortedIn ltCh 0 64 d) :
    Ord F (List.range ts.length) (tailOf d.toList) ∧ Ord F ((List.range ts.length).filter fun i => hdc (sg i)) (headOf d.toList) := by
  have hsz : (arCh ts F ts.length).size = 64 := by simp [arCh]
  have hd : d.size = 64 := hp.1.trans hsz
  have hperm : d.toList.Perm (arCh ts F ts.length).toList := by
    have h := hp.2.2
    have e1 : (d.extract 0 64) = d := by rw [← hd]; exact Array.extract_size
    have e2 : ((arCh ts F ts.length).extract 0 64) = arCh ts F ts.length := by
      have := Array.extract_size (xs := arCh ts F ts.length)
      rw [hsz] at this
      exact this
    rw [e1, e2] at h
    exact h
  have hgood : ∀ x ∈ d.toList, GoodCh ts F x := fun x hx => by
    have h := (hperm.mem_iff).1 hx
    rw [arCh_list] at h
    obtain ⟨j, _, rfl⟩ := List.mem_map.1 h
    exact el_good ts F j
  have hlp : (((d.toList).filter full).map (·.2.2)).Perm (List.range ts.length) := by
    rw [← ar_idx ts F hm]
    exact (hperm.filter _).map _
  have hpw : d.toList.Pairwise (fun x y => ltCh y x = false) := by
    rw [List.pairwise_iff_getElem]
    intro i j hi hj hij
    have h := hs i j (Nat.zero_le _) hij (by simp at hj; omega)
    rw [getElem!_pos d i (by simpa using hi), getElem!_pos d j (by simpa using hj)] at h
    simpa using h
  have hlw : (((d.toList).filter full).map (·.2.2)).Pairwise (Rk F) := by
    rw [List.pairwise_map]
    refine (hpw.filter full).imp_of_mem (fun {x y} hx hy h => ?_)
    have hx' := List.mem_filter.1 hx
    have hy' := List.mem_filter.1 hy
    have gx : x.2.1 = F x.2.2 := by
      rcases hgood x hx'.1 with ⟨_, h⟩ | h
      · exact congrArg (fun z => z.2.1) h
      · have := hx'.2; rw [h] at this; exact absurd (show false = true from this) (by decide)
    have gy : y.2.1 = F y.2.2 := by
      rcases hgood y hy'.1 with ⟨_, h⟩ | h
      · exact congrArg (fun z => z.2.1) h
      · have := hy'.2; rw [h] at this; exact absurd (show false = true from this) (by decide)
    rw [ltCh_not] at h
    unfold Rk
    omega
  have hlt : ∀ i ∈ (((d.toList).filter full).map (·.2.2)), i < ts.length := fun i hi => by
    have := (hlp.mem_iff).1 hi
    simpa using this
  constructor
  · refine ⟨_, hlp, hlw, ?_⟩
    rw [tail_good _ hgood]
    exact List.map_congr_left (fun i hi => hsg i (hlt i hi))
  · refine ⟨(((d.toList).filter full).map (·.2.2)).filter (fun i => hdc (sg i)), hlp.filter _, hlw.filter _, ?_⟩
    rw [head_good _ hgood]
    have e : (((d.toList).filter full).map (·.2.2)).filter (fun i => hdc (ts.getD i 0)) = (((d.toList).filter full).map (·.2.2)).filter (fun i => hdc (sg i)) := List.filter_congr (fun i hi => by rw [hsg i (hlt i hi)])
    rw [e]
    exact List.map_congr_left (fun i hi => hsg i (hlt i (List.mem_filter.1 hi).1))
end Go.Proofs.YtbkgbnejmgjiiaaDoor
