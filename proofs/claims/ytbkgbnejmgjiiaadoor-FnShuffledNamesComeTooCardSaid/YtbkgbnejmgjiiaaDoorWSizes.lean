/- What spec.Total, spec.AreSteps, laws.counted, impl.place, spec.Place and laws.at compute. Conditions: slices of lengths that Go allows; for Place a symbol that there is. -/
import Derived.Test.YtbkgbnejmgjiiaaDoorPlainMerge
import Derived.Test.YtbkgbnejmgjiiaaDoorWScanned
namespace Go.Proofs.YtbkgbnejmgjiiaaDoor
open Go.RowKit Go.Deep

def intCells (l : List Int) : List Value := l.map (fun x => .int .i64 x)
theorem intCells_length (l : List Int) : (intCells l).length = l.length := by simp [intCells]
theorem intCells_at (l : List Int) (k : Nat) (h : k < l.length) : (intCells l)[k]? = some (.int .i64 l[k]) := by simp [intCells, h]
theorem intCells_append (a b : List Int) : intCells (a ++ b) = intCells a ++ intCells b := by simp [intCells]
theorem intCells_snoc (l : List Int) (k : Nat) (h : k < l.length) : intCells (l.take (k + 1)) = intCells (l.take k) ++ [.int .i64 l[k]] := by
  rw [List.take_succ_eq_append_getElem h, intCells_append]; rfl
theorem mem_take_succ {α : Type} {l : List α} {k : Nat} {y : α} (h : k < l.length) (hy : y ∈ l.take (k + 1)) : y ∈ l.take k ∨ y = l[k] := by
  rw [List.take_succ_eq_append_getElem h] at hy
  rcases List.mem_append.1 hy with h1 | h1
  · exact .inl h1
  · exact .inr (List.mem_singleton.1 h1)
def pairCells (l : List (Int × Int)) : List Value := l.flatMap fun p => [.int .i64 p.1, .int .i64 p.2]
theorem pairCells_length (l : List (Int × Int)) : (pairCells l).length = l.length * 2 := by
  induction l with
  | nil => rfl
  | cons t ts ih => simp only [pairCells, List.flatMap_cons, List.length_append, List.length_cons, List.length_nil] at *; omega
theorem pairCells_append (a b : List (Int × Int)) : pairCells (a ++ b) = pairCells a ++ pairCells b := by simp [pairCells]
theorem pairCells_at (l : List (Int × Int)) : ∀ (k : Nat) (h : k < l.length), (pairCells l)[k * 2]? = some (.int .i64 l[k].1) ∧ (pairCells l)[k * 2 + 1]? = some (.int .i64 l[k].2) := by
  induction l with
  | nil => intro k h; simp at h
  | cons p r ih =>
    intro k h
    cases k with
    | zero => exact ⟨rfl, rfl⟩
    | succ k =>
      have := ih k (by simpa using h)
      have e1 : (k + 1) * 2 = k * 2 + 1 + 1 := by omega
      rw [e1]
      simpa [pairCells] using this
theorem pairCells_snoc (l : List (Int × Int)) (k : Nat) (h : k < l.length) : pairCells (l.take (k + 1)) = pairCells (l.take k) ++ [.int .i64 l[k].1, .int .i64 l[k].2] := by
  rw [List.take_succ_eq_append_getElem h, pairCells_append]; rfl
/-- a slice of integers at one index -/
theorem Reads.int {w wr : World} {B n k : Nat} {A : Option Addr} {l : List Int} (h : Reads w B 1 A n (intCells l)) (hk : k < l.length) (hb : Below B w wr) : ∃ b off, A = some ⟨b, off, none⟩ ∧ b < B ∧ wr.cell? ⟨b, off + k, none⟩ = some (.int .i64 l[k]) := by
  obtain ⟨b, off, e, hbB, hcell⟩ := h.at_ (by rw [intCells_length]; omega)
  exact ⟨b, off, e, hbB, (hb.cell (p := ⟨b, _, none⟩) hbB).trans (hcell _ _ (intCells_at l k hk))⟩
theorem Reads.pair {w wr : World} {B n k : Nat} {A : Option Addr} {l : List (Int × Int)} (h : Reads w B 2 A n (pairCells l)) (hk : k < l.length) (hb : Below B w wr) : ∃ b off, A = some ⟨b, off, none⟩ ∧ b < B ∧ wr.cell? ⟨b, off + k * 2, none⟩ = some (.int .i64 l[k].1) ∧ wr.cell? ⟨b, off + k * 2 + 1, none⟩ = some (.int .i64 l[k].2) := by
  obtain ⟨b, off, e, hbB, hcell⟩ := h.at_ (by rw [pairCells_length]; omega)
  have h2 := pairCells_at l k hk
  exact ⟨b, off, e, hbB, (hb.cell (p := ⟨b, _, none⟩) hbB).trans (hcell _ _ h2.1), (hb.cell (p := ⟨b, _, none⟩) hbB).trans (hcell _ _ h2.2)⟩

/-- what Total tells -/
def totI (l : List Int) : Int := if (l.all fun x => decide (0 ≤ x)) = true ∧ l.sum ≤ 3000 then l.sum else -1
theorem totI_ok {l : List Int} (h : okSizes l) : totI l = l.sum := by
  unfold totI
  rw [if_pos ⟨List.all_eq_true.2 (fun x hx => by simpa using h.1 x hx), h.2⟩]
theorem totI_not {l : List Int} (h : ¬ okSizes l) : totI l = -1 := by
  unfold totI
  rw [if_neg]
  rintro ⟨h1, h2⟩
  exact h ⟨fun x hx => by simpa using List.all_eq_true.1 h1 x hx, h2⟩

set_option maxHeartbeats 1000000 in
set_option maxRecDepth 100000 in
theorem total_any (A : Option Addr) (n c : Nat) (l : List Int) (w : World) (hr : Reads w w.heap.size 1 A n (intCells l)) (hn : n = l.length) (hm : n ≤ 9223372036854775807) :
    Calls Tryd.prog 45 #[.slice A n c] w fun e w' => e = .returned (.int .i64 (totI l)) ∧ w = w' := by
  have HR := Lib.hid hr
  have HN := Lib.hid hn
  clear hr hn
  go_enter Tryd.func45, Tryd.ntmps45
  go_wp2
  go_loopw [3, 8] (fun v x wr => ∃ (k : Nat) (s : Int), k ≤ n ∧ x = .int .i64 k ∧ v = .int .i64 s ∧ 0 ≤ s ∧ s ≤ 3000 ∧ Hid (s = (l.take k).sum) ∧ Hid (∀ y ∈ l.take k, 0 ≤ y) ∧ wr = w) (fun _ x _ => n - (intOf x).toNat)
  case atStart => exact ⟨0, 0, by omega, rfl, rfl, by omega, by omega, by simp [Hid], by simp [Hid], rfl⟩
  case round =>
    obtain ⟨k, s, hk, rfl, rfl, hs0, hs1, HS, HP, rfl⟩ := hrel
    by_cases hlt : k < n
    · have hk2 : k < l.length := by rw [← HN.out]; exact hlt
      obtain ⟨b, off, rfl, hbB, c0⟩ := HR.out.int hk2 (Below.refl _ _)
      have HSN := Lib.hid (sum_take_succ l k hk2)
      have HM : Hid (l[k] ∈ l) := List.getElem_mem _
      have HTK := Lib.hid (fun y => mem_take_succ (y := y) hk2)
      have HLE := Lib.hid (fun h => sum_take_le (l := l) h (k + 1))
      generalize l[k] = x at *
      by_cases h1 : x < 0
      · go_wp2
        go_ret
        rw [totI_not (fun h => by have := h.1 x HM.out; omega)]
        exact ⟨rfl, rfl⟩
      · by_cases h2 : 3000 < x
        · go_wp2
          go_ret
          rw [totI_not (fun h => by have a1 := h.2; have a2 := HLE.out h.1; have a3 := HSN.out; have a4 := HS.out; omega)]
          exact ⟨rfl, rfl⟩
        · by_cases h3 : 3000 < s + x
          · go_wp2
            go_ret
            rw [totI_not (fun h => by have a1 := h.2; have a2 := HLE.out h.1; have a3 := HSN.out; have a4 := HS.out; omega)]
            exact ⟨rfl, rfl⟩
          · go_wp2
            go_roundw
            case rel => exact ⟨k + 1, s + x, by omega, by go_num, by go_num, by omega, by omega, by rw [HSN.out, ← HS.out]; exact rfl, fun y hy => by
              rcases HTK.out y hy with h | h
              · exact HP.out y h
              · omega, by trivial⟩
            case measure => simp [intOf]; omega
    · have ht : l.take k = l := List.take_of_length_le (by have := HN.out; omega)
      rw [ht] at HS HP
      clear ht
      have HTT : Hid (totI l = s) := by
        show totI l = s
        rw [totI_ok ⟨HP.out, by rw [← HS.out]; exact hs1⟩, HS.out]
      go_wp2
      go_ret
      rw [HTT.out]
      exact ⟨rfl, rfl⟩

set_option maxHeartbeats 1000000 in
set_option maxRecDepth 100000 in
theorem areSteps_any (A : Option Addr) (n c : Nat) (l : List (Int × Int)) (N : Int) (w : World) (hr : Reads w w.heap.size 2 A n (pairCells l)) (hn : n = l.length) (hm : n ≤ 9223372036854775807) (r : Bool) (hb : r = true ↔ okSteps N l) :
    Calls Tryd.prog 46 #[.slice A n c, .int .i64 N] w fun e w' => e = .returned (.bool r) ∧ Below w.heap.size w w' := by
  have HR := Lib.hid hr
  have HN := Lib.hid hn
  have HB := Lib.hid hb
  clear hr hn hb
  have HF : Hid (¬ okSteps N l → r = false) := fun h => by
    cases r with
    | false => rfl
    | true => exact absurd (HB.out.1 rfl) h
  go_enter Tryd.func46, Tryd.ntmps46
  go_wp2
  go_loopw [9] (fun x wr => ∃ k : Nat, k ≤ n ∧ x = .int .i64 k ∧ Hid (okSteps N (l.take k)) ∧ Hid (Below w.heap.size w wr)) (fun x _ => n - (intOf x).toNat)
  case atStart => exact ⟨0, by omega, rfl, fun s hs => by simp at hs, Below.refl _ _⟩
  case round =>
    obtain ⟨k, hk, rfl, HO, HW⟩ := hrel
    have hws := HW.out.size
    by_cases hlt : k < n
    · have hk2 : k < l.length := by rw [← HN.out]; exact hlt
      obtain ⟨b, off, rfl, hbB, c0, c1⟩ := HR.out.pair hk2 HW.out
      have HM : Hid (l[k] ∈ l) := List.getElem_mem _
      have HTK := Lib.hid (fun y => mem_take_succ (y := y) hk2)
      have hW1 : Hid (∀ o, Below w.heap.size w (wr.alloc o)) := fun o => HW.out.alloc hws o
      generalize l[k] = p at *
      obtain ⟨p1, p2⟩ := p
      simp only at c0 c1
      by_cases h1 : p1 < 0
      · go_wp2
        go_ret
        rw [HF.out (fun h => by have := (h _ HM.out).1; simp only at this; omega)]
        exact ⟨rfl, hW1.out _⟩
      · by_cases h2 : N ≤ p1
        · go_wp2
          go_ret
          rw [HF.out (fun h => by have := (h _ HM.out).2.1; simp only at this; omega)]
          exact ⟨rfl, hW1.out _⟩
        · by_cases h3 : N ≤ p2
          · go_wp2
            go_ret
            rw [HF.out (fun h => by have := (h _ HM.out).2.2; simp only at this; omega)]
            exact ⟨rfl, hW1.out _⟩
          · go_wp2
            go_roundw
            case rel => exact ⟨k + 1, by omega, by go_num, fun y hy => by
              rcases HTK.out y hy with h | h
              · exact HO.out y h
              · subst h; exact ⟨by simp only; omega, by simp only; omega, by simp only; omega⟩, hW1.out _⟩
            case measure => simp [intOf]; omega
    · have ht : l.take k = l := List.take_of_length_le (by have := HN.out; omega)
      rw [ht] at HO
      clear ht
      go_wp2
      go_ret
      rw [HB.out.2 HO.out]
      exact ⟨rfl, HW.out⟩

set_option maxHeartbeats 1000000 in
set_option maxRecDepth 100000 in
theorem counted_any (A : Option Addr) (n c : Nat) (l : List Int) (w : World) (hr : Reads w w.heap.size 1 A n (intCells l)) (hn : n = l.length) (hm : n ≤ 9223372036854775807) (r : Bool) (hb : r = true ↔ okUses l) :
    Calls Tryd.prog 28 #[.slice A n c] w fun e w' => e = .returned (.bool r) ∧ w = w' := by
  have HR := Lib.hid hr
  have HN := Lib.hid hn
  have HB := Lib.hid hb
  clear hr hn hb
  have HF : Hid (¬ okUses l → r = false) := fun h => by
    cases r with
    | false => rfl
    | true => exact absurd (HB.out.1 rfl) h
  go_enter Tryd.func28, Tryd.ntmps28
  go_wp2
  go_loopw [7] (fun x wr => ∃ k : Nat, k ≤ n ∧ x = .int .i64 k ∧ Hid (okUses (l.take k)) ∧ wr = w) (fun x _ => n - (intOf x).toNat)
  case atStart => exact ⟨0, by omega, rfl, fun s hs => by simp at hs, rfl⟩
  case round =>
    obtain ⟨k, hk, rfl, HO, rfl⟩ := hrel
    by_cases hlt : k < n
    · have hk2 : k < l.length := by rw [← HN.out]; exact hlt
      obtain ⟨b, off, rfl, hbB, c0⟩ := HR.out.int hk2 (Below.refl _ _)
      have HM : Hid (l[k] ∈ l) := List.getElem_mem _
      have HTK := Lib.hid (fun y => mem_take_succ (y := y) hk2)
      generalize l[k] = x at *
      by_cases h1 : x < 0
      · go_wp2
        go_ret
        rw [HF.out (fun h => by have := (h x HM.out).1; omega)]
        exact ⟨rfl, rfl⟩
      · by_cases h2 : 1000000 < x
        · go_wp2
          go_ret
          rw [HF.out (fun h => by have := (h x HM.out).2; omega)]
          exact ⟨rfl, rfl⟩
        · go_wp2
          go_roundw
          case rel => exact ⟨k + 1, by omega, by go_num, fun y hy => by
            rcases HTK.out y hy with h | h
            · exact HO.out y h
            · omega, by trivial⟩
          case measure => simp [intOf]; omega
    · have ht : l.take k = l := List.take_of_length_le (by have := HN.out; omega)
      rw [ht] at HO
      clear ht
      go_wp2
      go_ret
      rw [HB.out.2 HO.out]
      exact ⟨rfl, rfl⟩

set_option maxHeartbeats 1000000 in
theorem impPlace_any (x : Nat × Nat) (w : World) (h0 : x.1 ≤ 4294967295) (h1 : x.2 ≤ 4294967295) :
    Calls Tryd.prog 48 #[.agg #[.int .u32 (x.1 : Int), .int .u32 (x.2 : Int)]] w fun e w' => e = .returned (.agg #[.int .i64 (x.1 : Int), .int .i64 (x.2 : Int)]) ∧ Below w.heap.size w w' := by
  go_enter Tryd.func48, Tryd.ntmps48
  go_wp2
  refine bodyPost_ret (v := .agg #[.int .i64 (x.1 : Int), .int .i64 (x.2 : Int)]) (by simp [results, Tryd.results48, go_sem]) rfl ⟨rfl, ?_⟩
  exact (((Below.refl _ _).alloc (Nat.le_refl _) _).alloc (by simp) _)
end Go.Proofs.YtbkgbnejmgjiiaaDoor
