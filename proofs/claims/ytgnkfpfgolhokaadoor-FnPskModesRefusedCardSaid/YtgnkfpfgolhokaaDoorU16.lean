/- Walks: binary.BigEndian.Uint16. -/
import Derived.Test.YtgnkfpfgolhokaaDoorOps3
import Derived.Test.YtgnkfpfgolhokaaDoorRow
import Derived.Test.YtgnkfpfgolhokaaDoorProg
import Derived.Deep.RegionHeld3
import Derived.Laws.BitsAllLaws
namespace Go.Proofs.YtgnkfpfgolhokaaDoor
open Go.RowKit Go.Cv
set_option maxRecDepth 100000
set_option linter.unusedVariables false
theorem or_mul256 (a b : Nat) (h : a < 256) : a ||| (b * 256) = b * 256 + a := by
  have : (256 : Nat) = 2 ^ 8 := rfl
  rw [this, Nat.or_comm, ← Nat.shiftLeft_eq, Nat.shiftLeft_add_eq_or_of_lt h]
theorem be16_or (p q : Nat) (hp : (p : Int) < 256) (hq : (q : Int) < 256) : bits BinOp.or IntKind.u16 (q : Int) ((p : Int) * 256) = ((p * 256 + q : Nat) : Int) := by
  have e : ((p : Int) * 256) = ((p * 256 : Nat) : Int) := by omega
  rw [e, u16_or_nat q (p * 256) (by omega) (by omega), or_mul256 q p (by omega)]
end Go.Proofs.YtgnkfpfgolhokaaDoor
