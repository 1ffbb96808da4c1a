/- Walks. -/
import Derived.Test.YtnjomlcenolkdaaA
namespace Go.Proofs.Ytnjomlcenolkdaa
open Go.RowKit Go.Cv
set_option maxRecDepth 100000
theorem law3a (l : List UInt8) (w : World) (hl : decide ((2147483647 : Int) < l.length) = false) (h2 : decide ((l.length : Int) < 100000) = false) :
    Calls Try.prog 3 #[.string (S l)] w fun e w' => e = .returned (.bool true) ∧ Below w.heap.size w w' := by
  have h3 : (S l).size = l.length := S_size l
  go_enter Try.func3, Try.ntmps3
  go_wp2_with fail
  go_ret
  exact ⟨rfl, Below.refl _ _⟩
theorem law3b (l : List UInt8) (w : World) (hl : decide ((2147483647 : Int) < l.length) = true) :
    Calls Try.prog 3 #[.string (S l)] w fun e w' => e = .returned (.bool true) ∧ Below w.heap.size w w' := by
  have h3 : (S l).size = l.length := S_size l
  go_enter Try.func3, Try.ntmps3
  go_wp2_with fail
  go_ret
  exact ⟨rfl, Below.refl _ _⟩
theorem law3c (l : List UInt8) (w : World) (h1 : decide ((2147483647 : Int) < l.length) = false) (h2 : decide ((l.length : Int) < 100000) = true) (hl : Hid (l.length ≤ 2147483647)) :
    Calls Try.prog 3 #[.string (S l)] w fun e w' => e = .returned (.bool true) ∧ Below w.heap.size w w' := by
  have h3 : (S l).size = l.length := S_size l
  go_enter Try.func3, Try.ntmps3
  go_wp2_with fail
  refine (finishedWrite_any l hl.out _ _ rfl rfl).mono ?_
  rintro e w1 ⟨rfl, hb1⟩
  go_wp2_with fail
  go_ret
  exact ⟨by simp, hb1⟩
theorem law3 (l : List UInt8) (w : World) :
    Calls Try.prog 3 #[.string (S l)] w fun e w' => e = .returned (.bool true) ∧ Below w.heap.size w w' := by
  by_cases h1 : (2147483647 : Int) < l.length
  · exact law3b l w (decide_eq_true h1)
  · by_cases h2 : (l.length : Int) < 100000
    · exact law3c l w (decide_eq_false h1) (decide_eq_true h2) (show l.length ≤ 2147483647 by omega)
    · exact law3a l w (decide_eq_false h1) (decide_eq_false h2)
end Go.Proofs.Ytnjomlcenolkdaa
