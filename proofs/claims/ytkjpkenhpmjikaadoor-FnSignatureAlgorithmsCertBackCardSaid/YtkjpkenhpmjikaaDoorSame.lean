/- Contracts of the laws' comparison of messages and extensions, where all lists have length 0. -/
import Derived.Test.YtkjpkenhpmjikaaDoorProg
import Derived.Test.YtkjpkenhpmjikaaDoorKit
import Derived.LoopTactic
namespace Go.Proofs.YtkjpkenhpmjikaaDoor
open Go.RowKit Go.Cv
set_option maxRecDepth 100000
set_option linter.unusedVariables false

theorem list0_u16 (A A' : Option Addr) (c c' : Nat) (fv : Value) (w : World) :
    Calls Tryd.prog 51 #[.slice A 0 c, .slice A' 0 c', fv] w fun e w' => e = .returned (.bool true) ∧ w = w' := by
  go_enter Tryd.func51, Tryd.ntmps51
  go_wp2_with fail
  refine wp_loop_rounds 1 ?_
  rw [rounds_succ]
  go_wp2_with fail
  go_ret
  exact ⟨rfl, rfl⟩
theorem list0_string (A A' : Option Addr) (c c' : Nat) (fv : Value) (w : World) :
    Calls Tryd.prog 49 #[.slice A 0 c, .slice A' 0 c', fv] w fun e w' => e = .returned (.bool true) ∧ w = w' := by
  go_enter Tryd.func49, Tryd.ntmps49
  go_wp2_with fail
  refine wp_loop_rounds 1 ?_
  rw [rounds_succ]
  go_wp2_with fail
  go_ret
  exact ⟨rfl, rfl⟩
theorem list0_pair (A A' : Option Addr) (c c' : Nat) (fv : Value) (w : World) :
    Calls Tryd.prog 53 #[.slice A 0 c, .slice A' 0 c', fv] w fun e w' => e = .returned (.bool true) ∧ w = w' := by
  go_enter Tryd.func53, Tryd.ntmps53
  go_wp2_with fail
  refine wp_loop_rounds 1 ?_
  rw [rounds_succ]
  go_wp2_with fail
  go_ret
  exact ⟨rfl, rfl⟩
theorem list0_share (A A' : Option Addr) (c c' : Nat) (fv : Value) (w : World) :
    Calls Tryd.prog 55 #[.slice A 0 c, .slice A' 0 c', fv] w fun e w' => e = .returned (.bool true) ∧ w = w' := by
  go_enter Tryd.func55, Tryd.ntmps55
  go_wp2_with fail
  refine wp_loop_rounds 1 ?_
  rw [rounds_succ]
  go_wp2_with fail
  go_ret
  exact ⟨rfl, rfl⟩
theorem list0_identity (A A' : Option Addr) (c c' : Nat) (fv : Value) (w : World) :
    Calls Tryd.prog 57 #[.slice A 0 c, .slice A' 0 c', fv] w fun e w' => e = .returned (.bool true) ∧ w = w' := by
  go_enter Tryd.func57, Tryd.ntmps57
  go_wp2_with fail
  refine wp_loop_rounds 1 ?_
  rw [rounds_succ]
  go_wp2_with fail
  go_ret
  exact ⟨rfl, rfl⟩
theorem list0_filter (A A' : Option Addr) (c c' : Nat) (fv : Value) (w : World) :
    Calls Tryd.prog 59 #[.slice A 0 c, .slice A' 0 c', fv] w fun e w' => e = .returned (.bool true) ∧ w = w' := by
  go_enter Tryd.func59, Tryd.ntmps59
  go_wp2_with fail
  refine wp_loop_rounds 1 ?_
  rw [rounds_succ]
  go_wp2_with fail
  go_ret
  exact ⟨rfl, rfl⟩
set_option maxHeartbeats 4000000 in
theorem sameExt0 (w : World) (cs ds : Array Value) (x0 : Int) (x1 : List UInt8) (A2 B2 : Option Addr) (c2 b2 : Nat) (A3 B3 : Option Addr) (c3 b3 : Nat) (A4 B4 : Option Addr) (c4 b4 : Nat) (x5 : Bool) (x6 : Int) (x7 : Bool) (A8 B8 : Option Addr) (c8 b8 : Nat) (A9 B9 : Option Addr) (c9 b9 : Nat) (A10 B10 : Option Addr) (c10 b10 : Nat) (A11 B11 : Option Addr) (c11 b11 : Nat) (A12 B12 : Option Addr) (c12 b12 : Nat)
    (e0 : cs[0]? = some (.int .u16 x0)) (d0 : ds[0]? = some (.int .u16 x0))
    (e1 : cs[1]? = some (.string (S x1))) (d1 : ds[1]? = some (.string (S x1)))
    (e2 : cs[2]? = some (.slice A2 0 c2)) (d2 : ds[2]? = some (.slice B2 0 b2))
    (e3 : cs[3]? = some (.slice A3 0 c3)) (d3 : ds[3]? = some (.slice B3 0 b3))
    (e4 : cs[4]? = some (.slice A4 0 c4)) (d4 : ds[4]? = some (.slice B4 0 b4))
    (e5 : cs[5]? = some (.bool x5)) (d5 : ds[5]? = some (.bool x5))
    (e6 : cs[6]? = some (.int .u32 x6)) (d6 : ds[6]? = some (.int .u32 x6))
    (e7 : cs[7]? = some (.bool x7)) (d7 : ds[7]? = some (.bool x7))
    (e8 : cs[8]? = some (.slice A8 0 c8)) (d8 : ds[8]? = some (.slice B8 0 b8))
    (e9 : cs[9]? = some (.slice A9 0 c9)) (d9 : ds[9]? = some (.slice B9 0 b9))
    (e10 : cs[10]? = some (.slice A10 0 c10)) (d10 : ds[10]? = some (.slice B10 0 b10))
    (e11 : cs[11]? = some (.slice A11 0 c11)) (d11 : ds[11]? = some (.slice B11 0 b11))
    (e12 : cs[12]? = some (.slice A12 0 c12)) (d12 : ds[12]? = some (.slice B12 0 b12)) :
    Calls Tryd.prog 24 #[.agg cs, .agg ds] w fun e w' => e = .returned (.bool true) ∧ (w.alloc (.cells cs 35)).alloc (.cells ds 35) = w' := by
  go_enter Tryd.func24, Tryd.ntmps24
  go_wp2_with fail
  refine (list0_string A2 B2 c2 b2 _ _).mono ?_
  rintro e w1 ⟨rfl, rfl⟩
  go_wp2_with fail
  refine (list0_u16 A3 B3 c3 b3 _ _).mono ?_
  rintro e w1 ⟨rfl, rfl⟩
  go_wp2_with fail
  refine (list0_pair A4 B4 c4 b4 _ _).mono ?_
  rintro e w1 ⟨rfl, rfl⟩
  go_wp2_with fail
  refine (list0_share A8 B8 c8 b8 _ _).mono ?_
  rintro e w1 ⟨rfl, rfl⟩
  go_wp2_with fail
  refine (list0_share A9 B9 c9 b9 _ _).mono ?_
  rintro e w1 ⟨rfl, rfl⟩
  go_wp2_with fail
  refine (list0_u16 A10 B10 c10 b10 _ _).mono ?_
  rintro e w1 ⟨rfl, rfl⟩
  go_wp2_with fail
  refine (list0_identity A11 B11 c11 b11 _ _).mono ?_
  rintro e w1 ⟨rfl, rfl⟩
  go_wp2_with fail
  refine (list0_filter A12 B12 c12 b12 _ _).mono ?_
  rintro e w1 ⟨rfl, rfl⟩
  go_wp2_with fail
  go_ret
  exact ⟨rfl, rfl⟩
end Go.Proofs.YtkjpkenhpmjikaaDoor
