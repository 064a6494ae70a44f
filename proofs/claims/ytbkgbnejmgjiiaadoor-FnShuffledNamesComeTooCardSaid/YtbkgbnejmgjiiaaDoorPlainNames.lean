/- Plain facts on names and their numbers: a name is the name of its number, and the number of a name is its number. No program in sight. Conditions: each lemma names its own. -/
namespace Go.Proofs.YtbkgbnejmgjiiaaDoor

def plc (l : List UInt8) (c : UInt8) : Int := if c ∈ l then (l.idxOf c : Int) else -1

def restN (tl : List UInt8) : Nat → Nat → List UInt8
  | 0, _ => []
  | f + 1, n => if n = 0 then [] else tl.getD ((n - 1) % tl.length) 0 :: restN tl f ((n - 1) / tl.length)

def nameOf (hd tl : List UInt8) (i : Nat) : List UInt8 := hd.getD (i % hd.length) 0 :: restN tl (i / hd.length) (i / hd.length)

def allIn (tl cs : List UInt8) : Prop := ∀ c ∈ cs, c ∈ tl

def isNm (hd tl s : List UInt8) : Prop := ∃ c cs, s = c :: cs ∧ c ∈ hd ∧ allIn tl cs

def numT (tl : List UInt8) : List UInt8 → Nat
  | [] => 0
  | c :: cs => numT tl cs * tl.length + tl.idxOf c + 1

def num (hd tl : List UInt8) : List UInt8 → Nat
  | [] => 0
  | c :: cs => numT tl cs * hd.length + hd.idxOf c

theorem plc_mem {l : List UInt8} {c : UInt8} (h : c ∈ l) : plc l c = (l.idxOf c : Int) := by simp [plc, h]
theorem plc_neg {l : List UInt8} {c : UInt8} : plc l c < 0 ↔ c ∉ l := by
  unfold plc
  by_cases h : c ∈ l
  · simp [h]
  · simp [h]
theorem plc_le (l : List UInt8) (c : UInt8) : -1 ≤ plc l c ∧ plc l c < l.length + 1 := by
  unfold plc
  by_cases h : c ∈ l
  · have := List.idxOf_lt_length_iff.2 h
    simp [h]; omega
  · simp [h]; omega

theorem restN_fuel (tl : List UInt8) : ∀ (f g n : Nat), n ≤ f → n ≤ g → restN tl f n = restN tl g n := by
  intro f
  induction f with
  | zero => intro g n hf _; obtain rfl : n = 0 := by omega
            cases g <;> simp [restN]
  | succ f ih =>
    intro g n hf hg
    by_cases hn : n = 0
    · subst hn; cases g <;> simp [restN]
    · obtain ⟨g', rfl⟩ : ∃ g', g = g' + 1 := ⟨g - 1, by omega⟩
      have h1 : (n - 1) / tl.length ≤ n - 1 := Nat.div_le_self _ _
      simp only [restN, hn, if_false]
      rw [ih g' ((n - 1) / tl.length) (by omega) (by omega)]

/-- one more round -/
theorem restN_step (tl : List UInt8) (f n : Nat) (hn : n ≠ 0) (hf : n ≤ f) : restN tl f n = tl.getD ((n - 1) % tl.length) 0 :: restN tl f ((n - 1) / tl.length) := by
  obtain ⟨f', rfl⟩ : ∃ f', f = f' + 1 := ⟨f - 1, by omega⟩
  have h1 : (n - 1) / tl.length ≤ n - 1 := Nat.div_le_self _ _
  rw [restN, if_neg hn, restN_fuel tl f' (f' + 1) _ (by omega) (by omega)]
theorem restN_zero (tl : List UInt8) (f : Nat) : restN tl f 0 = [] := by cases f <;> simp [restN]

theorem getD_idxOf {l : List UInt8} {c : UInt8} (h : c ∈ l) : l.getD (l.idxOf c) 0 = c := by
  have hlt := List.idxOf_lt_length_iff.2 h
  rw [List.getD_eq_getElem?_getD, List.getElem?_eq_getElem hlt]
  simp [List.getElem_idxOf hlt]
theorem idxOf_getD {l : List UInt8} (hn : l.Nodup) {i : Nat} (h : i < l.length) : l.idxOf (l.getD i 0) = i := by
  rw [List.getD_eq_getElem?_getD, List.getElem?_eq_getElem h]
  exact hn.idxOf_getElem i h
theorem getD_mem {l : List UInt8} {i : Nat} (h : i < l.length) : l.getD i 0 ∈ l := by
  rw [List.getD_eq_getElem?_getD, List.getElem?_eq_getElem h]
  exact List.getElem_mem h

theorem restN_numT (tl : List UInt8) : ∀ (cs : List UInt8) (f : Nat), allIn tl cs → numT tl cs ≤ f → restN tl f (numT tl cs) = cs := by
  intro cs
  induction cs with
  | nil => intro f _ _; exact restN_zero tl f
  | cons c cs ih =>
    intro f hin hf
    have hc : c ∈ tl := hin c (by simp)
    have hlt := List.idxOf_lt_length_iff.2 hc
    have hT : 0 < tl.length := by omega
    rw [restN_step tl f _ (by simp [numT]) hf]
    have e : numT tl (c :: cs) - 1 = tl.idxOf c + numT tl cs * tl.length := by simp [numT]; omega
    rw [e, Nat.add_mul_mod_self_right, Nat.mod_eq_of_lt hlt, Nat.add_mul_div_right _ _ hT, Nat.div_eq_of_lt hlt, Nat.zero_add, getD_idxOf hc]
    congr 1
    refine ih f (fun x hx => hin x (by simp [hx])) ?_
    have : numT tl cs ≤ numT tl cs * tl.length := Nat.le_mul_of_pos_right _ hT
    simp only [numT] at hf
    omega

/-- each name is the name of its number -/
theorem nameOf_num (hd tl s : List UInt8) (h : isNm hd tl s) : nameOf hd tl (num hd tl s) = s := by
  obtain ⟨c, cs, rfl, hc, hcs⟩ := h
  have hlt := List.idxOf_lt_length_iff.2 hc
  have hH : 0 < hd.length := by omega
  have e : num hd tl (c :: cs) = hd.idxOf c + numT tl cs * hd.length := by simp [num]; omega
  unfold nameOf
  rw [e, Nat.add_mul_mod_self_right, Nat.mod_eq_of_lt hlt, Nat.add_mul_div_right _ _ hH, Nat.div_eq_of_lt hlt, Nat.zero_add, getD_idxOf hc, restN_numT tl cs _ hcs (Nat.le_refl _)]

theorem restN_allIn (tl : List UInt8) (hT : 0 < tl.length) : ∀ (f n : Nat), allIn tl (restN tl f n) := by
  intro f
  induction f with
  | zero => intro n c hc; simp [restN] at hc
  | succ f ih =>
    intro n c hc
    simp only [restN] at hc
    split at hc
    · simp at hc
    · rcases List.mem_cons.1 hc with rfl | hc
      · exact getD_mem (Nat.mod_lt _ hT)
      · exact ih _ c hc

theorem numT_restN (tl : List UInt8) (hn : tl.Nodup) (hT : 0 < tl.length) : ∀ (f n : Nat), n ≤ f → numT tl (restN tl f n) = n := by
  intro f
  induction f with
  | zero => intro n h; obtain rfl : n = 0 := by omega
            simp [restN, numT]
  | succ f ih =>
    intro n h
    simp only [restN]
    by_cases h0 : n = 0
    · simp [h0, numT]
    · simp only [h0, if_false, numT]
      have h1 : (n - 1) / tl.length ≤ n - 1 := Nat.div_le_self _ _
      rw [ih _ (by omega), idxOf_getD hn (Nat.mod_lt _ hT)]
      have := Nat.div_add_mod (n - 1) tl.length
      rw [Nat.mul_comm] at this
      omega

/-- the number of a name is its number -/
theorem num_nameOf (hd tl : List UInt8) (hh : hd.Nodup) (ht : tl.Nodup) (hH : 0 < hd.length) (hT : 0 < tl.length) (i : Nat) : num hd tl (nameOf hd tl i) = i := by
  unfold nameOf num
  simp only
  rw [numT_restN tl ht hT _ _ (Nat.le_refl _), idxOf_getD hh (Nat.mod_lt _ hH)]
  have := Nat.div_add_mod i hd.length
  rw [Nat.mul_comm] at this
  omega

theorem isNm_nameOf (hd tl : List UInt8) (hH : 0 < hd.length) (hT : 0 < tl.length) (i : Nat) : isNm hd tl (nameOf hd tl i) :=
  ⟨_, _, rfl, getD_mem (Nat.mod_lt _ hH), restN_allIn tl hT _ _⟩

theorem nameOf_inj (hd tl : List UInt8) (hh : hd.Nodup) (ht : tl.Nodup) (hH : 0 < hd.length) (hT : 0 < tl.length) {i j : Nat} (h : nameOf hd tl i = nameOf hd tl j) : i = j := by
  rw [← num_nameOf hd tl hh ht hH hT i, h, num_nameOf hd tl hh ht hH hT j]

theorem restN_mono (tl : List UInt8) : ∀ (f g n m : Nat), n ≤ f → m ≤ g → n ≤ m → (restN tl f n).length ≤ (restN tl g m).length := by
  intro f
  induction f with
  | zero => intro g n m h _ _; simp [restN]
  | succ f ih =>
    intro g n m hf hg hnm
    by_cases h0 : n = 0
    · subst h0; simp [restN]
    · rw [restN_step tl _ n h0 hf, restN_step tl g m (by omega) hg]
      have a1 : (n - 1) / tl.length ≤ n - 1 := Nat.div_le_self _ _
      have a2 : (m - 1) / tl.length ≤ m - 1 := Nat.div_le_self _ _
      have a3 : (n - 1) / tl.length ≤ (m - 1) / tl.length := Nat.div_le_div_right (by omega)
      rw [restN_fuel tl (f + 1) f _ (by omega) (by omega)]
      simp only [List.length_cons]
      have := ih g ((n - 1) / tl.length) ((m - 1) / tl.length) (by omega) (by omega) a3
      omega

theorem nameOf_mono (hd tl : List UInt8) {i j : Nat} (h : i ≤ j) : (nameOf hd tl i).length ≤ (nameOf hd tl j).length := by
  unfold nameOf
  simp only [List.length_cons]
  have := restN_mono tl _ _ (i / hd.length) (j / hd.length) (Nat.le_refl _) (Nat.le_refl _) (Nat.div_le_div_right h)
  omega

/-- how great a number is -/
theorem numT_lt (tl : List UInt8) (hT : tl.length ≤ 64) : ∀ cs : List UInt8, numT tl cs < 66 ^ cs.length := by
  intro cs
  induction cs with
  | nil => simp [numT]
  | cons c cs ih =>
    have hle := List.idxOf_le_length (a := c) (l := tl)
    simp only [numT, List.length_cons, Nat.pow_succ]
    have : numT tl cs * tl.length ≤ numT tl cs * 64 := Nat.mul_le_mul_left _ hT
    omega

theorem numT_small (tl : List UInt8) (hT : tl.length ≤ 64) (cs : List UInt8) (h : cs.length ≤ 7) : numT tl cs < 5455160701056 := by
  have h1 := numT_lt tl hT cs
  have h2 : 66 ^ cs.length ≤ 66 ^ 7 := Nat.pow_le_pow_right (by omega) h
  have h3 : (66 : Nat) ^ 7 = 5455160701056 := by decide
  omega

end Go.Proofs.YtbkgbnejmgjiiaaDoor
