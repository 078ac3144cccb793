import Derived.Test.YbulkfslyParts
import Derived.WalkKit
import Derived.WalkLawsBesides
import Derived.WalkSpells
import Derived.BigRegion
import Derived.BigQuiet
import Derived.Deep.QuietTactic
import Derived.Deep.RegionHeld3
namespace Go.Proofs.Ybulkfsly
open Go.RowKit
theorem run_bits (m : Nat) (w : World) : (callFunc 6 #[.float .f64 m]).run Yba.prog w = .ok (.value (.int .u64 m)) w := by kernel_rfl
set_option maxRecDepth 100000 in
set_option maxHeartbeats 1000000 in
theorem same_any (f t : Int) (m u : Nat) (w : World) :
    Calls Yba.prog 5 #[.agg #[.int .i64 f, .int .i64 t, .float .f64 m, .float .f64 u], .agg #[.int .i64 f, .int .i64 t, .float .f64 m, .float .f64 u]] w
     fun e w' => e = .returned (.bool true) ∧ ∃ n, w' = ((w.alloc (.cells #[.int .i64 f, .int .i64 t, .float .f64 m, .float .f64 u] 27)).alloc (.cells #[.int .i64 f, .int .i64 t, .float .f64 m, .float .f64 u] 27)).drewN n := by
  have h1 : (f == f) = true := by simp
  have h2 : (t == t) = true := by simp
  have hb := run_bits
  go_enter Yba.func5, Yba.ntmps5
  go_wp2
  go_quiet (fail)
  go_wp2
  go_ret
  exact ⟨rfl, _, rfl⟩
end Go.Proofs.Ybulkfsly
