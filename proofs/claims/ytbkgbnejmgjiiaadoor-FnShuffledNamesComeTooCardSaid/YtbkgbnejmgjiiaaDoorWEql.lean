/- What == and != give on references, places and rows of four numbers, whatever the numbers. -/
import Derived.Test.YtbkgbnejmgjiiaaDoorProg
import Derived.WalkKit
namespace Go.Proofs.YtbkgbnejmgjiiaaDoor
open Go.RowKit
theorem eqIn_u32 (d : Nat) (a b : Int) (w : World) : (Op.equalIn (d + 1) 29 (.int .u32 a) (.int .u32 b)).run Tryd.prog w = .ok (a == b) w := by
  simp [Op.equalIn, run_underlying Tryd.underlying29]
theorem eqIn_int (d : Nat) (a b : Int) (w : World) : (Op.equalIn (d + 1) 3 (.int .i64 a) (.int .i64 b)).run Tryd.prog w = .ok (a == b) w := by
  simp [Op.equalIn, run_underlying Tryd.underlying3]
theorem eqIn_arr4 (d : Nat) (a0 a1 a2 a3 b0 b1 b2 b3 : Int) (w : World) : (Op.equalIn (d + 2) 30 (.agg #[.int .u32 a0, .int .u32 a1, .int .u32 a2, .int .u32 a3]) (.agg #[.int .u32 b0, .int .u32 b1, .int .u32 b2, .int .u32 b3])).run Tryd.prog w = .ok ((a0 == b0) && (a1 == b1) && (a2 == b2) && (a3 == b3)) w := by
  have h := fun a b w => eqIn_u32 d a b w
  have p0 : ∀ (x0 x1 x2 x3 : Int) (w : World), (part 29 #[.int .u32 x0, .int .u32 x1, .int .u32 x2, .int .u32 x3] 0).run Tryd.prog w = .ok (.int .u32 x0) w := fun _ _ _ _ _ => by kernel_rfl
  have p1 : ∀ (x0 x1 x2 x3 : Int) (w : World), (part 29 #[.int .u32 x0, .int .u32 x1, .int .u32 x2, .int .u32 x3] 1).run Tryd.prog w = .ok (.int .u32 x1) w := fun _ _ _ _ _ => by kernel_rfl
  have p2 : ∀ (x0 x1 x2 x3 : Int) (w : World), (part 29 #[.int .u32 x0, .int .u32 x1, .int .u32 x2, .int .u32 x3] 2).run Tryd.prog w = .ok (.int .u32 x2) w := fun _ _ _ _ _ => by kernel_rfl
  have p3 : ∀ (x0 x1 x2 x3 : Int) (w : World), (part 29 #[.int .u32 x0, .int .u32 x1, .int .u32 x2, .int .u32 x3] 3).run Tryd.prog w = .ok (.int .u32 x3) w := fun _ _ _ _ _ => by kernel_rfl
  unfold Op.equalIn
  cases e0 : a0 == b0 <;> cases e1 : a1 == b1 <;> cases e2 : a2 == b2 <;> cases e3 : a3 == b3 <;>
    simp [run_underlying Tryd.underlying30, List.range'_succ, p0, p1, p2, p3, h, e0, e1, e2, e3]
theorem eqIn_ref (d : Nat) (a0 a1 b0 b1 : Int) (w : World) : (Op.equalIn (d + 2) 100 (.agg #[.int .u32 a0, .int .u32 a1]) (.agg #[.int .u32 b0, .int .u32 b1])).run Tryd.prog w = .ok ((a0 == b0) && (a1 == b1)) w := by
  have h := fun a b w => eqIn_u32 d a b w
  have p0 : ∀ (x0 x1 : Int) (w : World), (part 29 #[.int .u32 x0, .int .u32 x1] 0).run Tryd.prog w = .ok (.int .u32 x0) w := fun _ _ _ => by kernel_rfl
  have p1 : ∀ (x0 x1 : Int) (w : World), (part 29 #[.int .u32 x0, .int .u32 x1] 1).run Tryd.prog w = .ok (.int .u32 x1) w := fun _ _ _ => by kernel_rfl
  unfold Op.equalIn
  cases e0 : a0 == b0 <;> cases e1 : a1 == b1 <;> simp [run_underlying Tryd.underlying100, p0, p1, h, e0, e1]
theorem eqIn_place (d : Nat) (a0 a1 b0 b1 : Int) (w : World) : (Op.equalIn (d + 2) 55 (.agg #[.int .i64 a0, .int .i64 a1]) (.agg #[.int .i64 b0, .int .i64 b1])).run Tryd.prog w = .ok ((a0 == b0) && (a1 == b1)) w := by
  have h := fun a b w => eqIn_int d a b w
  have p0 : ∀ (x0 x1 : Int) (w : World), (part 3 #[.int .i64 x0, .int .i64 x1] 0).run Tryd.prog w = .ok (.int .i64 x0) w := fun _ _ _ => by kernel_rfl
  have p1 : ∀ (x0 x1 : Int) (w : World), (part 3 #[.int .i64 x0, .int .i64 x1] 1).run Tryd.prog w = .ok (.int .i64 x1) w := fun _ _ _ => by kernel_rfl
  unfold Op.equalIn
  cases e0 : a0 == b0 <;> cases e1 : a1 == b1 <;> simp [run_underlying Tryd.underlying55, p0, p1, h, e0, e1]
theorem eql_arr4 (a0 a1 a2 a3 b0 b1 b2 b3 : Int) (w : World) : (binOp .eql 30 (.agg #[.int .u32 a0, .int .u32 a1, .int .u32 a2, .int .u32 a3]) (.agg #[.int .u32 b0, .int .u32 b1, .int .u32 b2, .int .u32 b3])).run Tryd.prog w = .ok (.bool ((a0 == b0) && (a1 == b1) && (a2 == b2) && (a3 == b3))) w := by
  have h := eqIn_arr4 9998 a0 a1 a2 a3 b0 b1 b2 b3 w
  simp only [binOp]
  simp [Op.equal, Op.maxDepth, h]
theorem eql_ref (a0 a1 b0 b1 : Int) (w : World) : (binOp .eql 100 (.agg #[.int .u32 a0, .int .u32 a1]) (.agg #[.int .u32 b0, .int .u32 b1])).run Tryd.prog w = .ok (.bool ((a0 == b0) && (a1 == b1))) w := by
  have h := eqIn_ref 9998 a0 a1 b0 b1 w
  simp only [binOp]
  simp [Op.equal, Op.maxDepth, h]
theorem neq_ref (a0 a1 b0 b1 : Int) (w : World) : (binOp .neq 100 (.agg #[.int .u32 a0, .int .u32 a1]) (.agg #[.int .u32 b0, .int .u32 b1])).run Tryd.prog w = .ok (.bool (!((a0 == b0) && (a1 == b1)))) w := by
  have h := eqIn_ref 9998 a0 a1 b0 b1 w
  simp only [binOp]
  simp [Op.equal, Op.maxDepth, h]
theorem neq_place (a0 a1 b0 b1 : Int) (w : World) : (binOp .neq 55 (.agg #[.int .i64 a0, .int .i64 a1]) (.agg #[.int .i64 b0, .int .i64 b1])).run Tryd.prog w = .ok (.bool (!((a0 == b0) && (a1 == b1)))) w := by
  have h := eqIn_place 9998 a0 a1 b0 b1 w
  simp only [binOp]
  simp [Op.equal, Op.maxDepth, h]
end Go.Proofs.YtbkgbnejmgjiiaaDoor
