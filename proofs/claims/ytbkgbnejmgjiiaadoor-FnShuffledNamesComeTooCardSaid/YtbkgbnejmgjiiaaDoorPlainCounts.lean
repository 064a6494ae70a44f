/- Plain facts on counting characters: how often a sign occurs in a text, and in texts that are counted so many times. No program in sight. Conditions: each lemma names its own. -/
namespace Go.Proofs.YtbkgbnejmgjiiaaDoor

/-- the place of a byte among the signs, by ranges -/
def code (c : UInt8) : Option Nat :=
  if 97 ≤ c.toNat ∧ c.toNat ≤ 122 then some (c.toNat - 97)
  else if 65 ≤ c.toNat ∧ c.toNat ≤ 90 then some (c.toNat - 39)
  else if 48 ≤ c.toNat ∧ c.toNat ≤ 57 then some (c.toNat + 4)
  else if c.toNat = 95 then some 62
  else if c.toNat = 36 then some 63
  else none

def one (c : UInt8) (j : Nat) : Int := if code c = some j then 1 else 0

def occ : List UInt8 → Nat → Int
  | [], _ => 0
  | c :: cs, j => one c j + occ cs j

theorem one_le (c : UInt8) (j : Nat) : 0 ≤ one c j ∧ one c j ≤ 1 := by
  unfold one
  split <;> omega
theorem occ_append (a b : List UInt8) (j : Nat) : occ (a ++ b) j = occ a j + occ b j := by
  induction a with
  | nil => simp [occ]
  | cons c cs ih => simp only [List.cons_append, occ, ih]; omega
theorem occ_le (l : List UInt8) (j : Nat) : 0 ≤ occ l j ∧ occ l j ≤ l.length := by
  induction l with
  | nil => simp [occ]
  | cons c cs ih =>
    have := one_le c j
    simp only [occ, List.length_cons]
    omega
theorem code_lt {c : UInt8} {j : Nat} (h : code c = some j) : j < 64 := by
  unfold code at h
  split at h
  · injection h with h; omega
  · split at h
    · injection h with h; omega
    · split at h
      · injection h with h; omega
      · split at h
        · injection h with h; omega
        · split at h
          · injection h with h; omega
          · cases h

/-- texts, each with its times -/
def cnt : List (List UInt8 × Int) → Nat → Int
  | [], _ => 0
  | t :: ts, j => t.2 * occ t.1 j + cnt ts j

theorem cnt_append (a b : List (List UInt8 × Int)) (j : Nat) : cnt (a ++ b) j = cnt a j + cnt b j := by
  induction a with
  | nil => simp [cnt]
  | cons c cs ih => simp only [List.cons_append, cnt, ih]; omega

/-- how long texts are together -/
def long : List (List UInt8 × Int) → Nat
  | [] => 0
  | t :: ts => t.1.length + long ts
theorem long_append (a b : List (List UInt8 × Int)) : long (a ++ b) = long a + long b := by
  induction a with
  | nil => simp [long]
  | cons c cs ih => simp only [List.cons_append, long, ih]; omega
theorem long_take (l : List (List UInt8 × Int)) (k : Nat) : long (l.take k) ≤ long l := by
  conv => rhs; rw [← List.take_append_drop k l]
  rw [long_append]
  omega

/-- texts that can be counted -/
def timesOk (l : List (List UInt8 × Int)) : Prop := ∀ t ∈ l, -1000 ≤ t.2 ∧ t.2 ≤ 1000
def areTexts (l : List (List UInt8 × Int)) : Prop := timesOk l ∧ long l ≤ 100000

theorem mul_bound {t o n : Int} (h1 : -1000 ≤ t) (h2 : t ≤ 1000) (h3 : 0 ≤ o) (h4 : o ≤ n) : -(1000 * n) ≤ t * o ∧ t * o ≤ 1000 * n := by
  have a1 : t * o ≤ 1000 * o := Int.mul_le_mul_of_nonneg_right h2 h3
  have a2 : -1000 * o ≤ t * o := Int.mul_le_mul_of_nonneg_right h1 h3
  constructor <;> omega

theorem cnt_le (l : List (List UInt8 × Int)) (h : timesOk l) (j : Nat) : -(1000 * (long l : Int)) ≤ cnt l j ∧ cnt l j ≤ 1000 * (long l : Int) := by
  induction l with
  | nil => simp [cnt, long]
  | cons t ts ih =>
    have h1 := h t (by simp)
    have h2 := ih (fun x hx => h x (by simp [hx]))
    have h3 := occ_le t.1 j
    have h4 := mul_bound h1.1 h1.2 h3.1 h3.2
    simp only [cnt, long]
    omega

theorem timesOk_take {l : List (List UInt8 × Int)} (h : timesOk l) (k : Nat) : timesOk (l.take k) := fun t ht => h t (List.mem_of_mem_take ht)
theorem cnt_zero (l : List (List UInt8 × Int)) (k : Nat) (h : k < l.length) (j : Nat) : cnt (l.take (k + 1)) j = cnt (l.take k) j + l[k].2 * occ l[k].1 j := by
  rw [List.take_succ_eq_append_getElem h, cnt_append]
  simp [cnt]

end Go.Proofs.YtbkgbnejmgjiiaaDoor
