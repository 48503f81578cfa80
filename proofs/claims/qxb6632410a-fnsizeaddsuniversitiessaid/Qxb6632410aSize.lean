/-
  The method Size of a university, walked once: what it hands back and what memory it leaves.
-/
import Derived.Test.Qxb6632410aRows
import Derived.WalkKit
import Derived.ProofKit
import Derived.OpenShut
import Derived.ShutString
namespace Go.Proofs.Qxb6632410a
open Go.ChangeShapes Go.WideShapes Go.ChangeAt Go.RowKit

set_option maxHeartbeats 400000 in
theorem size_any (s i c : Int) (w : World) :
    Calls Try.prog 5 #[.agg #[.int .i64 s, .int .i64 i, .int .i64 c]] w fun e w' =>
      e = .returned (.agg #[.int .i64 (wrap64 (wrap64 (s + i) + 1)), .int .i64 c, .int .i64 (wrap64 (wrap64 (5 * s) + wrap64 (2 * i)))]) ∧
      w' = (w.alloc (.cells #[.int .i64 s, .int .i64 i, .int .i64 c] 25)).alloc (.cells #[.int .i64 (wrap64 (wrap64 (s + i) + 1)), .int .i64 c, .int .i64 (wrap64 (wrap64 (5 * s) + wrap64 (2 * i)))] 23) := by
  go_enter Try.func5, Try.ntmps5
  go_wp2
  exact bodyPost_ret (v := .agg #[.int .i64 (wrap64 (wrap64 (s + i) + 1)), .int .i64 c, .int .i64 (wrap64 (wrap64 (5 * s) + wrap64 (2 * i)))]) (by simp [results, Try.results5, go_sem]) rfl ⟨rfl, rfl⟩
end Go.Proofs.Qxb6632410a
