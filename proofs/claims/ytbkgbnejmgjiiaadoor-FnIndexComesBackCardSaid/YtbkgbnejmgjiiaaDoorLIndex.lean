/- The law FnIndexComesBack returns true, for every 32-bit number, in every world in which the two minifiers lie as their initialisers lay them; what lay in memory stands. -/
import Derived.Test.YtbkgbnejmgjiiaaDoorLEvery
namespace Go.Proofs.YtbkgbnejmgjiiaaDoor
open Go.RowKit

theorem flip32 (i : Int) (h0 : 0 ≤ i) (h1 : i ≤ 4294967295) : bits BinOp.xor IntKind.u32 IntKind.u32.max i = 4294967295 - i := by
  obtain ⟨n, rfl⟩ := Int.eq_ofNat_of_zero_le h0
  have hm : IntKind.u32.max = 4294967295 := by decide
  rw [hm]
  show IntKind.u32.wrap ((BitVec.ofInt 32 (4294967295 : Int) ^^^ BitVec.ofInt 32 (n : Int)).toNat : Int) = _
  have e : BitVec.ofInt 32 (4294967295 : Int) = BitVec.allOnes 32 := by decide
  rw [e, BitVec.allOnes_xor, BitVec.toNat_not, BitVec.ofInt_natCast, BitVec.toNat_ofNat, Nat.mod_eq_of_lt (by omega)]
  simp [IntKind.wrap, IntKind.bits, IntKind.signed]
  omega

theorem makeIndex_any (i : Int) (w : World) (h0 : 0 ≤ i) (h1 : i ≤ 4294967295) :
    Calls Tryd.prog 40 #[.int .u32 i] w fun e w' => e = .returned (.agg #[.int .u32 (4294967295 - i)]) ∧ Below w.heap.size w w' := by
  have hf := flip32 i h0 h1
  go_enter Tryd.func40, Tryd.ntmps40
  go_wp2
  refine bodyPost_ret (v := .agg #[.int .u32 (4294967295 - i)]) (by simp [results, Tryd.results40, go_sem]) rfl ⟨rfl, ?_⟩
  exact (Below.refl _ _).alloc (Nat.le_refl _) _

theorem isValid_yes (i : Int) (w : World) (h0 : (i != 0) = true) :
    Calls Tryd.prog 41 #[.agg #[.int .u32 i]] w fun e w' => e = .returned (.bool true) ∧ Below w.heap.size w w' := by
  go_enter Tryd.func41, Tryd.ntmps41
  go_wp2
  go_ret
  exact ⟨rfl, (Below.refl _ _).alloc (Nat.le_refl _) _⟩
theorem isValid_no (w : World) :
    Calls Tryd.prog 41 #[.agg #[.int .u32 0]] w fun e w' => e = .returned (.bool false) ∧ Below w.heap.size w w' := by
  go_enter Tryd.func41, Tryd.ntmps41
  go_wp2
  go_ret
  exact ⟨rfl, (Below.refl _ _).alloc (Nat.le_refl _) _⟩
theorem getIndex_any (i : Int) (w : World) (h0 : 0 ≤ i) (h1 : i ≤ 4294967295) :
    Calls Tryd.prog 42 #[.agg #[.int .u32 i]] w fun e w' => e = .returned (.int .u32 (4294967295 - i)) ∧ Below w.heap.size w w' := by
  have hf := flip32 i h0 h1
  go_enter Tryd.func42, Tryd.ntmps42
  go_wp2
  go_ret
  exact ⟨rfl, (Below.refl _ _).alloc (Nat.le_refl _) _⟩
theorem noIndex_any (w : World) :
    Calls Tryd.prog 22 #[] w fun e w' => e = .returned (.bool false) ∧ Below w.heap.size w w' := by
  go_enter Tryd.func22, Tryd.ntmps22
  go_wp2_with fail
  refine (isValid_no _).mono ?_
  rintro e w1 ⟨rfl, hb1⟩
  have HB := Lib.hid (((Below.refl w.heap.size w).alloc (Nat.le_refl _) _).trans (hb1.mono (by simp)))
  clear hb1
  go_wp2
  go_ret
  exact ⟨rfl, HB.out⟩

theorem index_top (w : World) :
    Calls Tryd.prog 21 #[.int .u32 4294967295] w fun e w' => e = .returned (.tuple #[.int .u32 0, .bool false]) ∧ Below w.heap.size w w' := by
  go_enter Tryd.func21, Tryd.ntmps21
  go_wp2_with fail
  refine (makeIndex_any _ _ (by omega) (by omega)).mono ?_
  rw [show (4294967295 - 4294967295 : Int) = 0 from by omega]
  rintro e w1 ⟨rfl, hb1⟩
  have HB1 := Lib.hid hb1
  clear hb1
  go_wp2_with fail
  refine (isValid_no _).mono ?_
  rintro e w2 ⟨rfl, hb2⟩
  have HB2 := Lib.hid ((HB1.out.alloc HB1.out.size _).trans (hb2.mono (by have := HB1.out.size; simp; omega)))
  clear hb2
  go_wp2
  go_ret2
  exact ⟨rfl, HB2.out⟩
theorem index_any (i : Int) (w : World) (h0 : 0 ≤ i) (h1 : i < 4294967295) :
    Calls Tryd.prog 21 #[.int .u32 i] w fun e w' => e = .returned (.tuple #[.int .u32 i, .bool true]) ∧ Below w.heap.size w w' := by
  go_enter Tryd.func21, Tryd.ntmps21
  go_wp2_with fail
  refine (makeIndex_any _ _ h0 (by omega)).mono ?_
  rintro e w1 ⟨rfl, hb1⟩
  have HB1 := Lib.hid hb1
  clear hb1
  have hne : ((4294967295 - i) != 0) = true := by rw [bne_iff_ne]; omega
  go_wp2_with fail
  refine (isValid_yes _ _ hne).mono ?_
  rintro e w2 ⟨rfl, hb2⟩
  have hc : w2.cell? ⟨w1.heap.size, 0, none⟩ = some (.int .u32 (4294967295 - i)) := (hb2.cell (p := ⟨w1.heap.size, 0, none⟩) (by simp)).trans (by go_simp)
  have HB2 := Lib.hid ((HB1.out.alloc HB1.out.size _).trans (hb2.mono (by have := HB1.out.size; simp; omega)))
  clear hb2
  go_wp2_with fail
  refine (getIndex_any _ _ (by omega) (by omega)).mono ?_
  rw [show (4294967295 - (4294967295 - i) : Int) = i from by omega]
  rintro e w3 ⟨rfl, hb3⟩
  have HB3 := Lib.hid (HB2.out.trans (hb3.mono HB2.out.size))
  clear hb3
  go_wp2
  go_ret2
  exact ⟨rfl, HB3.out⟩

set_option maxHeartbeats 400000 in
theorem law_index (i : Int) (w : World) (hg : Glob w) (h0 : 0 ≤ i) (h1 : i ≤ 4294967295) :
    Calls Tryd.prog 6 #[.int .u32 i] w fun e w' => e = .returned (.bool true) ∧ Below w.heap.size w w' := by
  by_cases ht : i = 4294967295
  · subst ht
    go_enter Tryd.func6, Tryd.ntmps6
    go_wp2_with fail
    refine (index_top _).mono ?_
    rintro e w1 ⟨rfl, hb1⟩
    have HB1 := Lib.hid hb1
    clear hb1
    go_wp2_with fail
    refine (noIndex_any _).mono ?_
    rintro e w2 ⟨rfl, hb2⟩
    have HB2 := Lib.hid (HB1.out.trans (hb2.mono HB1.out.size))
    clear hb2
    go_wp2_with fail
    refine (wakes_any _ (hg.below HB2.out hg.size)).mono ?_
    rintro e w3 ⟨rfl, hb3⟩
    have HB3 := Lib.hid (HB2.out.trans (hb3.mono HB2.out.size))
    clear hb3
    go_wp2
    go_ret
    exact ⟨rfl, HB3.out⟩
  · have hq : (i == 4294967295) = false := beq_eq_false_iff_ne.2 ht
    clear ht
    go_enter Tryd.func6, Tryd.ntmps6
    go_wp2_with fail
    refine (index_any _ _ h0 (by have := beq_eq_false_iff_ne.1 hq; omega)).mono ?_
    rintro e w1 ⟨rfl, hb1⟩
    have HB1 := Lib.hid hb1
    clear hb1
    go_wp2_with fail
    refine (noIndex_any _).mono ?_
    rintro e w2 ⟨rfl, hb2⟩
    have HB2 := Lib.hid (HB1.out.trans (hb2.mono HB1.out.size))
    clear hb2
    go_wp2_with fail
    refine (wakes_any _ (hg.below HB2.out hg.size)).mono ?_
    rintro e w3 ⟨rfl, hb3⟩
    have HB3 := Lib.hid (HB2.out.trans (hb3.mono HB2.out.size))
    clear hb3
    go_wp2
    go_ret
    exact ⟨rfl, HB3.out⟩

end Go.Proofs.YtbkgbnejmgjiiaaDoor
