/- Walks: the ceiling of a float, as a function of its bits. -/
import Derived.Test.YtohankdfnjogfaaIters
import Derived.WalkLawsBesides
import Derived.Laws.FloatArith
import Derived.Test.YtohankdfnjogfaaRow
import Derived.Outline
import Derived.Test.YtohankdfnjogfaaProg
namespace Go.Proofs.Ytohankdfnjogfaa
open Go.RowKit Go.Cv
set_option maxRecDepth 100000
set_option linter.unusedVariables false
theorem x_ceil (x : Nat) (hx : (FloatKind.f64.decode x).isNaN = false) (w : World) : (callFunc 29 #[.float .f64 x]).run Try.prog w = .ok (.value (.float .f64 (ceilW x))) w := by
  rw [@run_callFunc_extern Try.prog 29 _ (Extern.MathFloor.toIntegral "math.archCeil" .up) Try.func29 (by kernel_rfl) (by kernel_rfl) (by kernel_rfl) (by kernel_rfl)]
  have e : Extern.MathFloor.toIntegral "math.archCeil" .up #[.float .f64 x] = pure (.float .f64 (ceilW x)) := by
    unfold ceilW
    show Extern.MathFloor.toIntegral.match_1 _ (FloatKind.f64.decode x) _ _ = _
    cases h : FloatKind.f64.decode x with
    | nan s t => rw [h] at hx; simp [Ieee.Datum.isNaN] at hx
    | number s m i => rfl
    | infinity s => rfl
  rw [e]
  rfl
theorem t_ceil (x : Nat) (hx : (FloatKind.f64.decode x).isNaN = false) (w : World) : Calls Try.prog 23 #[.float .f64 x] w fun e w' => e = .returned (.float .f64 (ceilW x)) ∧ w = w' := by
  have hb := x_ceil x hx
  clear hx
  go_enter Try.func23, Try.ntmps23
  go_wp2_with fail
  go_ret
  exact ⟨rfl, rfl⟩
end Go.Proofs.Ytohankdfnjogfaa
