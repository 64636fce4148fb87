import Derived.Test.YbulkmauRows
import Derived.WalkKit
import Derived.WalkLawsBesides
import Derived.WideLaws
namespace Go.Proofs.Ybulkmau.Room
open Go.RowKit

theorem ret_bool {a b : Bool} (h : a = b) : Ending.returned (.bool a) = .returned (.bool b) := by rw [h]

theorem any20 : Yba.prog.underlying 20 = some (.interface (Yba.prog.methodsAt 20)) := by kernel_rfl
theorem comp3 : (Yba.prog.info? 3).map (·.comparable) = some true := by kernel_rfl

/-- 'x != y', both interface values that hold an int. -/
theorem neq_int (a b : Int) (w : World) : (binOp .neq 20 (.iface 3 (.int .i64 a)) (.iface 3 (.int .i64 b))).run Yba.prog w = .ok (.bool (a != b)) w := by
  cases hi : Yba.prog.info? 3 with
  | none => have := comp3; simp [hi] at this
  | some i =>
    have hcc : i.comparable = true := by have := comp3; simpa [hi] using this
    have h : ∀ d : Nat, (Op.equalIn (d + 2) 20 (.iface 3 (.int .i64 a)) (.iface 3 (.int .i64 b))).run Yba.prog w = .ok (a == b) w := fun d => by
      simp [Op.equalIn, run_underlying any20, run_underlying Yba.underlying3, typeInfo, hi, hcc]
    simp only [binOp]
    simp [Op.equal, Op.maxDepth, h 9998, bne]
theorem neq_nil (a : Int) (w : World) : (binOp .neq 20 (.iface 3 (.int .i64 a)) .nilIface).run Yba.prog w = .ok (.bool true) w := run_neq_held_nil w 20 3 _ any20
theorem nil_nil (w : World) : (binOp .neq 20 .nilIface .nilIface).run Yba.prog w = .ok (.bool false) w := run_neq_nil_nil w 20 any20
end Go.Proofs.Ybulkmau.Room
