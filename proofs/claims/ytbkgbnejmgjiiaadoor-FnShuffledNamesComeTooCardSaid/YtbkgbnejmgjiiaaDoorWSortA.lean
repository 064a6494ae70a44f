/- sort.insertionSort over an array whose methods compare and exchange, and what is asked of such an array. Conditions: fewer than 2^62 elements. -/
import Derived.Test.YtbkgbnejmgjiiaaDoorWMem
import Derived.Sort.WalkA
import Derived.Deep.LoopGhost
namespace Go.Proofs.YtbkgbnejmgjiiaaDoor
open Go.RowKit Go.Lib Go.Sort
variable {α : Type}

/-- what is asked of the array that is sorted: it lies in one block, its methods compare and exchange -/
structure Srt [Inhabited α] (blk : Nat) (rv : Value) (lt : α → α → Bool) (size : Nat) (I : Array α → World → Prop) : Prop where
  less : ∀ (d : Array α) (W : World) (i j : Nat), I d W → i < size → j < size → Calls Tryd.prog 102 #[rv, .int .i64 i, .int .i64 j] W fun e w' => e = .returned (.bool (lt d[i]! d[j]!)) ∧ I d w' ∧ W.grownBy w' (some blk)
  swap : ∀ (d : Array α) (W : World) (i j : Nat), I d W → i < size → j < size → Calls Tryd.prog 103 #[rv, .int .i64 i, .int .i64 j] W fun e w' => e = .returned (.tuple #[]) ∧ I (swp d i j) w' ∧ W.grownBy w' (some blk)
  keep : ∀ (d : Array α) (W W' : World), I d W → W'.heap[blk]? = W.heap[blk]? → I d W'
  below : ∀ (d : Array α) (W : World), I d W → blk < W.heap.size
  len : ∀ (d : Array α) (W : World), I d W → d.size = size
  small : size < 4611686018427387904
  isSlice : ∃ p n c, rv = .slice p n c
/-- the array holds d, and of what lay in w nothing else has turned -/
structure At (I : Array α → World → Prop) (blk : Nat) (w : World) (d : Array α) (W : World) : Prop where
  inv : I d W
  gr : w.grownBy W (some blk)
theorem grownBy_refl (w : World) (row : Option Nat) : w.grownBy w row := ⟨rfl, rfl, rfl, Nat.le_refl _, fun _ _ _ => rfl⟩
section
variable {blk : Nat} {rv : Value} {lt : α → α → Bool} {size : Nat} {I : Array α → World → Prop} {w W W' : World} {d : Array α}
theorem At.start (h : I d w) : At I blk w d w := ⟨h, grownBy_refl _ _⟩
theorem At.less [Inhabited α] (S : Srt blk rv lt size I) (h : At I blk w d W) {i j : Nat} (hi : i < size) (hj : j < size) : Calls Tryd.prog 102 #[rv, .int .i64 i, .int .i64 j] W fun e w' => e = .returned (.bool (lt d[i]! d[j]!)) ∧ At I blk w d w' :=
  (S.less d W i j h.inv hi hj).mono fun _ _ ⟨e, h1, h2⟩ => ⟨e, h1, only_trans h.gr h2⟩
theorem At.swap [Inhabited α] (S : Srt blk rv lt size I) (h : At I blk w d W) {i j : Nat} (hi : i < size) (hj : j < size) : Calls Tryd.prog 103 #[rv, .int .i64 i, .int .i64 j] W fun e w' => e = .returned (.tuple #[]) ∧ At I blk w (swp d i j) w' :=
  (S.swap d W i j h.inv hi hj).mono fun _ _ ⟨e, h1, h2⟩ => ⟨e, h1, only_trans h.gr h2⟩
theorem At.trans {d' : Array α} (h : At I blk w d W) (k : At I blk W d' W') : At I blk w d' W' := ⟨k.inv, only_trans h.gr k.gr⟩
theorem At.alloc [Inhabited α] (S : Srt blk rv lt size I) (h : At I blk w d W) (o : Obj) : At I blk w d (W.alloc o) := ⟨S.keep d W _ h.inv (Below.heap_alloc W o blk (S.below d W h.inv)), only_alloc h.gr o⟩
theorem At.drewN [Inhabited α] (S : Srt blk rv lt size I) (h : At I blk w d W) (n : Nat) : At I blk w d (W.drewN n) := ⟨S.keep d W _ h.inv rfl, only_drewN h.gr n⟩
theorem At.sz [Inhabited α] (S : Srt blk rv lt size I) (h : At I blk w d W) : d.size = size := S.len d W h.inv
end
theorem method_less (p : Option Addr) (n c : Nat) : ∀ w, Sem.run Tryd.prog (method (Tryd.prog.types.size + 100) 132 (.slice p n c) "Less") w = .ok (102, .slice p n c) w := fun _ => by kernel_rfl
theorem method_swap (p : Option Addr) (n c : Nat) : ∀ w, Sem.run Tryd.prog (method (Tryd.prog.types.size + 100) 132 (.slice p n c) "Swap") w = .ok (103, .slice p n c) w := fun _ => by kernel_rfl

set_option maxHeartbeats 2000000 in
set_option maxRecDepth 100000 in
theorem insertionSort_at [Inhabited α] {blk : Nat} {rv : Value} {lt : α → α → Bool} {size : Nat} {I : Array α → World → Prop} (S : Srt blk rv lt size I) (a b : Nat) (d : Array α) (w : World) (hI : I d w) (hab : a ≤ b) (hb : b ≤ size) :
    Calls Tryd.prog 68 #[.iface 132 rv, .int .i64 a, .int .i64 b] w fun e w' => e = .returned (.tuple #[]) ∧ At I blk w (Sort.insertionSort lt d a b) w' := by
  obtain ⟨p, n, c, rfl⟩ := S.isSlice
  have hsz := S.small
  have HS := Lib.hid S
  have HI := Lib.hid hI
  have mL := method_less p n c
  have mS := method_swap p n c
  clear S hI
  go_enter Tryd.func68, Tryd.ntmps68
  go_wp2
  go_loopw [6] (fun vi wr => ∃ (i : Nat) (dk : Array α), vi = .int .i64 i ∧ a < i ∧ i ≤ b + 1 ∧ Hid (At I blk w dk wr) ∧ Hid (insOuter lt a b i dk = insOuter lt a b (a + 1) d)) (fun vi _ => b + 1 - (intOf vi).toNat)
  case atStart => exact ⟨a + 1, d, by go_num, by omega, by omega, At.start HI.out, rfl⟩
  case round =>
    obtain ⟨i, dk, rfl, hai, hib, HA, HO⟩ := hrel
    by_cases hlt : i < b
    · go_wp2
      go_loopw [7] (fun vj wr2 => ∃ (j : Nat) (dj : Array α), vj = .int .i64 j ∧ a ≤ j ∧ j ≤ i ∧ Hid (At I blk w dj wr2) ∧ Hid (insInner lt a j dj = insInner lt a i dk)) (fun vj _ => (intOf vj).toNat)
      case atStart => exact ⟨i, dk, rfl, by omega, Nat.le_refl _, HA.out, rfl⟩
      case round =>
        clear HA
        obtain ⟨j, dj, rfl, haj, hji, HA, HIn⟩ := hrel
        have OUT : Hid ((j ≤ a ∨ lt dj[j]! dj[j - 1]! = false) → insOuter lt a b (i + 1) dj = insOuter lt a b (a + 1) d) := fun hs => by
          rw [← HO.out, insOuter_go _ _ _ _ _ hlt, ← HIn.out, insInner_stop _ _ _ _ hs]
        by_cases hja : a < j
        · have hl := HA.out.less HS.out (i := j) (j := j - 1) (by omega) (by omega)
          rw [show (((j - 1 : Nat) : Int)) = (j : Int) - 1 by omega] at hl
          have HLS := Lib.hid hl
          clear hl
          cases hlv : lt dj[j]! dj[j - 1]! with
          | true =>
            rw [hlv] at HLS
            go_wp2_with fail
            refine HLS.out.mono ?_
            rintro e w2 ⟨rfl, ha2⟩
            have HA2 := Lib.hid ha2
            clear ha2
            have hs := HA2.out.swap HS.out (i := j) (j := j - 1) (by omega) (by omega)
            rw [show (((j - 1 : Nat) : Int)) = (j : Int) - 1 by omega] at hs
            have HSW := Lib.hid hs
            clear hs HLS
            go_wp2_with fail
            refine HSW.out.mono ?_
            rintro e w3 ⟨rfl, ha3⟩
            have HA3 := Lib.hid ha3
            clear ha3 HSW
            have HI3 : Hid (insInner lt a (j - 1) (swp dj j (j - 1)) = insInner lt a i dk) := by rw [← HIn.out, insInner_go lt a j dj hja hlv]; exact rfl
            go_wp2
            go_roundw
            case rel => exact ⟨j - 1, swp dj j (j - 1), by go_num, by omega, by omega, HA3.out, HI3.out⟩
            case measure => simp [intOf]; omega
          | false =>
            rw [hlv] at HLS
            go_wp2_with fail
            refine HLS.out.mono ?_
            rintro e w2 ⟨rfl, ha2⟩
            have HA2 := Lib.hid ha2
            clear ha2
            have HOU := Lib.hid (OUT.out (Or.inr hlv))
            go_wp2
            go_roundw
            case rel => exact ⟨i + 1, dj, by go_num, by omega, by omega, HA2.out, HOU.out⟩
            case measure => simp [intOf]; omega
        · go_wp2
          go_roundw
          case rel => exact ⟨i + 1, dj, by go_num, by omega, by omega, HA.out, OUT.out (Or.inl (by omega))⟩
          case measure => simp [intOf]; omega
    · go_wp2
      go_end0
      exact ⟨rfl, by unfold Sort.insertionSort; rw [← HO.out, insOuter_stop _ _ _ _ _ hlt]; exact HA.out⟩
end Go.Proofs.YtbkgbnejmgjiiaaDoor
