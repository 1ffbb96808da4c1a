/- Walks: the law about the message that a server signs about its key. -/
import Derived.Test.YtkcacppcendhmaaKeySum
namespace Go.Proofs.Ytkcacppcendhmaa
open Go.RowKit Go.Cv
set_option maxRecDepth 100000
set_option linter.unusedVariables false
theorem le_max31 (n : Nat) (h : decide ((2147483647 : Int) < n) = false) : n ≤ 2147483647 := by
  have := of_decide_eq_false h; omega
theorem le_255 (n : Nat) (h : decide ((255 : Int) < n) = false) : n ≤ 255 := by
  have := of_decide_eq_false h; omega
theorem key_out1 (l1 l2 l3 : List UInt8) (m : Nat) (h1 : decide ((2147483647 : Int) < l1.length) = true) (w : World) :
    Calls Try.prog 3 #[.string (S l1), .string (S l2), .string (S l3), .int .u16 m] w fun e w' => e = .returned (.bool true) ∧ Below w.heap.size w w' := by
  have z1 : (S l1).size = l1.length := S_size l1
  go_enter Try.func3, Try.ntmps3
  go_wp2_with fail
  go_ret
  exact ⟨rfl, Below.refl _ _⟩
theorem key_out2 (l1 l2 l3 : List UInt8) (m : Nat) (h1 : decide ((2147483647 : Int) < l1.length) = false) (h2 : decide ((2147483647 : Int) < l2.length) = true) (w : World) :
    Calls Try.prog 3 #[.string (S l1), .string (S l2), .string (S l3), .int .u16 m] w fun e w' => e = .returned (.bool true) ∧ Below w.heap.size w w' := by
  have z1 : (S l1).size = l1.length := S_size l1
  have z2 : (S l2).size = l2.length := S_size l2
  go_enter Try.func3, Try.ntmps3
  go_wp2_with fail
  go_ret
  exact ⟨rfl, Below.refl _ _⟩
theorem key_out3 (l1 l2 l3 : List UInt8) (m : Nat) (h1 : decide ((2147483647 : Int) < l1.length) = false) (h2 : decide ((2147483647 : Int) < l2.length) = false) (h3 : decide ((2147483647 : Int) < l3.length) = true) (w : World) :
    Calls Try.prog 3 #[.string (S l1), .string (S l2), .string (S l3), .int .u16 m] w fun e w' => e = .returned (.bool true) ∧ Below w.heap.size w w' := by
  have z1 : (S l1).size = l1.length := S_size l1
  have z2 : (S l2).size = l2.length := S_size l2
  have z3 : (S l3).size = l3.length := S_size l3
  go_enter Try.func3, Try.ntmps3
  go_wp2_with fail
  go_ret
  exact ⟨rfl, Below.refl _ _⟩
theorem key_long (l1 l2 l3 : List UInt8) (m : Nat) (h1 : decide ((2147483647 : Int) < l1.length) = false) (h2 : decide ((2147483647 : Int) < l2.length) = false) (h3 : decide ((2147483647 : Int) < l3.length) = false) (h4 : decide ((255 : Int) < l3.length) = true) (w : World) :
    Calls Try.prog 3 #[.string (S l1), .string (S l2), .string (S l3), .int .u16 m] w fun e w' => e = .returned (.bool true) ∧ Below w.heap.size w w' := by
  have z1 : (S l1).size = l1.length := S_size l1
  have z2 : (S l2).size = l2.length := S_size l2
  have z3 : (S l3).size = l3.length := S_size l3
  go_enter Try.func3, Try.ntmps3
  go_wp2_with fail
  go_ret
  exact ⟨rfl, Below.refl _ _⟩
theorem key_in (l1 l2 l3 : List UInt8) (m : Nat) (hm : (m : Int) < 65536) (h1 : decide ((2147483647 : Int) < l1.length) = false) (h2 : decide ((2147483647 : Int) < l2.length) = false) (h3 : decide ((2147483647 : Int) < l3.length) = false) (h4 : decide ((255 : Int) < l3.length) = false) (w : World) :
    Calls Try.prog 3 #[.string (S l1), .string (S l2), .string (S l3), .int .u16 m] w fun e w' => e = .returned (.bool true) ∧ Below w.heap.size w w' := by
  have z1 : (S l1).size = l1.length := S_size l1
  have z2 : (S l2).size = l2.length := S_size l2
  have z3 : (S l3).size = l3.length := S_size l3
  have HC := Lib.hid (fun w => keyMessage_any l1 l2 l3 m (le_max31 _ h1) (le_max31 _ h2) (le_255 _ h4) w)
  have HD := Lib.hid (fun w => keySum_any l1 l2 l3 m hm (le_max31 _ h1) (le_max31 _ h2) (le_255 _ h4) w)
  clear hm
  go_enter Try.func3, Try.ntmps3
  go_wp2_with fail
  refine (HC.out _).mono ?_
  rintro e w1 ⟨rfl, hb1⟩
  go_wp2_with fail
  refine (HD.out _).mono ?_
  rintro e w2 ⟨rfl, hb2⟩
  go_wp2_with fail
  go_ret
  exact ⟨rfl, below_two hb1 hb2⟩
theorem key_law (l1 l2 l3 : List UInt8) (m : Nat) (hm : (m : Int) < 65536) (w : World) :
    Calls Try.prog 3 #[.string (S l1), .string (S l2), .string (S l3), .int .u16 m] w fun e w' => e = .returned (.bool true) ∧ Below w.heap.size w w' := by
  cases h1 : decide ((2147483647 : Int) < l1.length)
  · cases h2 : decide ((2147483647 : Int) < l2.length)
    · cases h3 : decide ((2147483647 : Int) < l3.length)
      · cases h4 : decide ((255 : Int) < l3.length)
        · exact key_in l1 l2 l3 m hm h1 h2 h3 h4 w
        · exact key_long l1 l2 l3 m h1 h2 h3 h4 w
      · exact key_out3 l1 l2 l3 m h1 h2 h3 w
    · exact key_out2 l1 l2 l3 m h1 h2 w
  · exact key_out1 l1 l2 l3 m h1 w
theorem key_row (l1 l2 l3 : List UInt8) (x : Int) (hx : (Lit.int .u16 x).wf = true) (w : World) :
    Calls Try.prog 3 #[.string (S l1), .string (S l2), .string (S l3), .int .u16 x] w fun e w' => e = .returned (.bool true) ∧ Below w.heap.size w w' := by
  obtain ⟨m, rfl, hm⟩ := nat_u16 hx
  exact key_law l1 l2 l3 m hm w
end Go.Proofs.Ytkcacppcendhmaa
