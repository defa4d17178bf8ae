/-
  '==' BETWEEN TWO ARRAYS OF FIVE int THAT HOLD THE SAME.
-/
import Derived.Test.Qxb6600935aModsBase
import Derived.ChangeKeysEq
namespace Go.Proofs.Qxb6600935aMods.B
open Go.ChangeShapes Go.WideShapes Go.ChangeAt Go.RowKit

theorem info3 : (Trym.prog.info? 3).map (fun i => (i.zero, i.size, i.bytes)) = some (some (.int .i64 0), 1, 8) := by kernel_rfl
theorem cells3 : Trym.prog.cellsOf 3 = 1 := by kernel_rfl

theorem eq5 (v0 v1 v2 v3 v4 : Int) (w : World) :
    (Op.equalIn 10000 26 (.agg #[.int .i64 v0, .int .i64 v1, .int .i64 v2, .int .i64 v3, .int .i64 v4]) (.agg #[.int .i64 v0, .int .i64 v1, .int .i64 v2, .int .i64 v3, .int .i64 v4])).run Trym.prog w = .ok true w := by
  obtain ⟨i0, hi, _, _, _⟩ := info_parts info3
  rw [show (10000 : Nat) = 9999 + 1 from rfl, run_equalIn_array w 9999 _ _ Trym.underlying26 hi, cells3]
  simp [List.range, List.range.loop, Op.eqItems, go_sem]

end Go.Proofs.Qxb6600935aMods.B
