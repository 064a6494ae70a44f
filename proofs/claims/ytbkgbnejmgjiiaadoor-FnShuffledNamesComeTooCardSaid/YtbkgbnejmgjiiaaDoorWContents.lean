/- What SymbolFlags.Has and MergeContentsWith do to symbols without flags. Conditions: the uses of both together fit 32 bits. -/
import Derived.Test.YtbkgbnejmgjiiaaDoorWFollow
namespace Go.Proofs.YtbkgbnejmgjiiaaDoor
open Go.RowKit Go.Deep

theorem has_any (k : Int) (w : World) (hb : bits BinOp.and IntKind.u16 0 k = 0) : Calls Tryd.prog 62 #[.int .u16 0, .int .u16 k] w fun e w' => e = .returned (.bool false) ∧ w = w' := by
  go_enter Tryd.func62, Tryd.ntmps62
  go_wp2
  go_ret
  exact ⟨rfl, rfl⟩

set_option maxHeartbeats 1000000 in
theorem contents_any (T : Tbl) (base : Nat) (s : UF) (w : World) (x z : Nat × Nat) (ht : Tab T base s w) (hx : T.V x) (hz : T.V z) (hu : s.uses x + s.uses z ≤ 4294967295) :
    Calls Tryd.prog 59 #[.pointer (some ⟨T.B x.1, x.2 * 10, none⟩), .pointer (some ⟨T.B z.1, z.2 * 10, none⟩)] w fun e w' => e = .returned (.tuple #[]) ∧ Tab T base (s.setUses x (s.uses x + s.uses z)) w' ∧ Kp T w w' := by
  have u0 := ht.useCell hx
  have u1 := ht.useCell hz
  have fz := ht.free hx (x.2 * 10 + 4)
  have HN := Lib.hid (ht.setUses hx (s.uses x + s.uses z))
  have HK := Lib.hid ((Kp.refl T w).setCell hx.1 (x.2 * 10 + 4) (.int .u32 ((s.uses x + s.uses z : Nat) : Int)))
  have e : (((s.uses x + s.uses z : Nat) : Int)) = (s.uses x : Int) + (s.uses z : Int) := by omega
  rw [e] at HN HK
  have fl := HN.out.flagCell hz
  clear ht hx hz e
  go_enter Tryd.func59, Tryd.ntmps59
  go_wp2
  go_region
  all_goals
    go_wp2_with (go_at_call 62; refine (has_any _ _ (by decide)).mono ?_; rintro e w' ⟨rfl, rfl⟩)
    go_end0
    exact ⟨rfl, HN.out.drewN 1, HK.out.drewN 1⟩
end Go.Proofs.YtbkgbnejmgjiiaaDoor
