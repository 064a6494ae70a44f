/- sort.Sort over an array of at most 255 elements whose methods compare and exchange. Conditions: a strict weak order. -/
import Derived.Test.YtbkgbnejmgjiiaaDoorWSortH
namespace Go.Proofs.YtbkgbnejmgjiiaaDoor
open Go.RowKit Go.Lib Go.Sort
variable {α : Type}

theorem method_len (p : Option Addr) (n c : Nat) : ∀ w, Sem.run Tryd.prog (method (Tryd.prog.types.size + 100) 132 (.slice p n c) "Len") w = .ok (101, .slice p n c) w := fun _ => by kernel_rfl
theorem len_any (p : Option Addr) (n c : Nat) (w : World) : Calls Tryd.prog 101 #[.slice p n c] w fun e w' => e = .returned (.int .i64 (n : Int)) ∧ w' = w := by
  go_enter Tryd.func101, Tryd.ntmps101
  go_wp2
  go_ret
  exact ⟨rfl, rfl⟩

set_option maxHeartbeats 2000000 in
set_option maxRecDepth 100000 in
theorem sort_at [Inhabited α] {blk : Nat} {p : Option Addr} {c : Nat} {lt : α → α → Bool} {size : Nat} {I : Array α → World → Prop} (S : Srt blk (.slice p size c) lt size I) (hO : SWO lt) (hfew : size ≤ 255) (h2 : 2 ≤ size) (d : Array α) (w : World) (hI : I d w) :
    Calls Tryd.prog 60 #[.iface 132 (.slice p size c)] w fun e w' => e = .returned (.tuple #[]) ∧ ∃ d', PermIn 0 size d d' ∧ SortedIn lt 0 size d' ∧ At I blk w d' w' := by
  have hds := S.len d w hI
  have mN := method_len p size c
  have HPS := Lib.hid (pdq_sorts lt hO d 0 size (bitsLen size) true true (Nat.zero_le _) (by omega) (Or.inl rfl))
  have hbl : bitsLen size ≤ 8 := (bitsLen_le_iff size 8).2 (by omega)
  have HP := Lib.hid (pdqsort_at S hO hfew (size + 1) 0 size (bitsLen size) d w (by omega) hI (Nat.zero_le _) (Nat.le_refl _) (by omega) (Or.inl rfl))
  clear S hI
  have wr : IntKind.u64.wrap (size : Int) = size := by simp [IntKind.wrap, IntKind.bits, IntKind.signed]; omega
  go_enter Tryd.func60, Tryd.ntmps60
  go_wp2_with fail
  refine (len_any p size c _).mono ?_
  rintro e w' ⟨rfl, rfl⟩
  go_wp2_with fail
  refine (len_small size hfew _).mono ?_
  rintro e w' ⟨rfl, rfl⟩
  go_wp2_with fail
  refine HP.out.mono ?_
  rintro e w2 ⟨rfl, ha⟩
  have HA := Lib.hid ha
  clear ha HP
  go_wp2
  go_end0
  exact ⟨rfl, _, HPS.out.1, HPS.out.2, HA.out⟩
end Go.Proofs.YtbkgbnejmgjiiaaDoor
