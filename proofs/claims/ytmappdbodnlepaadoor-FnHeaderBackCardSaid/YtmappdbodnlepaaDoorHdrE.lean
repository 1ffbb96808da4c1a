/- Walks: versions compared. -/
import Derived.Test.YtmappdbodnlepaaDoorHdr
namespace Go.Proofs.YtmappdbodnlepaaDoor
open Go.RowKit Go.Cv
set_option maxRecDepth 100000
set_option linter.unusedVariables false
theorem verEq_no (w : World) : Calls Tryd.prog 59 #[.agg #[.int .u8 254, .int .u8 253], .agg #[.int .u8 254, .int .u8 255]] w fun e w' => e = .returned (.bool false) ∧ Below w.heap.size w w' := by
  go_enter Tryd.func59, Tryd.ntmps59
  go_wp2_with fail
  go_ret
  exact ⟨rfl, below_two (below_alloc _ _) (below_alloc _ _)⟩
theorem verEq_yes (w : World) : Calls Tryd.prog 59 #[.agg #[.int .u8 254, .int .u8 253], .agg #[.int .u8 254, .int .u8 253]] w fun e w' => e = .returned (.bool true) ∧ Below w.heap.size w w' := by
  go_enter Tryd.func59, Tryd.ntmps59
  go_wp2_with fail
  go_ret
  exact ⟨rfl, below_two (below_alloc _ _) (below_alloc _ _)⟩
end Go.Proofs.YtmappdbodnlepaaDoor
