/- Contracts of the laws' comparison of messages and extensions, where all lists have length 0. -/
import Derived.Test.YtfelfjdgmjapnaaDoorProg
import Derived.Test.YtfelfjdgmjapnaaDoorKit
import Derived.LoopTactic
namespace Go.Proofs.YtfelfjdgmjapnaaDoor
open Go.RowKit Go.Cv
set_option maxRecDepth 100000
set_option linter.unusedVariables false

theorem list0_u16 (A A' : Option Addr) (c c' : Nat) (fv : Value) (w : World) :
    Calls Tryd.prog 17 #[.slice A 0 c, .slice A' 0 c', fv] w fun e w' => e = .returned (.bool true) ∧ w = w' := by
  go_enter Tryd.func17, Tryd.ntmps17
  go_wp2_with fail
  refine wp_loop_rounds 1 ?_
  rw [rounds_succ]
  go_wp2_with fail
  go_ret
  exact ⟨rfl, rfl⟩
theorem list0_u8 (A A' : Option Addr) (c c' : Nat) (fv : Value) (w : World) :
    Calls Tryd.prog 19 #[.slice A 0 c, .slice A' 0 c', fv] w fun e w' => e = .returned (.bool true) ∧ w = w' := by
  go_enter Tryd.func19, Tryd.ntmps19
  go_wp2_with fail
  refine wp_loop_rounds 1 ?_
  rw [rounds_succ]
  go_wp2_with fail
  go_ret
  exact ⟨rfl, rfl⟩
theorem list0_string (A A' : Option Addr) (c c' : Nat) (fv : Value) (w : World) :
    Calls Tryd.prog 22 #[.slice A 0 c, .slice A' 0 c', fv] w fun e w' => e = .returned (.bool true) ∧ w = w' := by
  go_enter Tryd.func22, Tryd.ntmps22
  go_wp2_with fail
  refine wp_loop_rounds 1 ?_
  rw [rounds_succ]
  go_wp2_with fail
  go_ret
  exact ⟨rfl, rfl⟩
theorem list0_pair (A A' : Option Addr) (c c' : Nat) (fv : Value) (w : World) :
    Calls Tryd.prog 24 #[.slice A 0 c, .slice A' 0 c', fv] w fun e w' => e = .returned (.bool true) ∧ w = w' := by
  go_enter Tryd.func24, Tryd.ntmps24
  go_wp2_with fail
  refine wp_loop_rounds 1 ?_
  rw [rounds_succ]
  go_wp2_with fail
  go_ret
  exact ⟨rfl, rfl⟩
theorem list0_entry (A A' : Option Addr) (c c' : Nat) (fv : Value) (w : World) :
    Calls Tryd.prog 26 #[.slice A 0 c, .slice A' 0 c', fv] w fun e w' => e = .returned (.bool true) ∧ w = w' := by
  go_enter Tryd.func26, Tryd.ntmps26
  go_wp2_with fail
  refine wp_loop_rounds 1 ?_
  rw [rounds_succ]
  go_wp2_with fail
  go_ret
  exact ⟨rfl, rfl⟩
theorem list0_share (A A' : Option Addr) (c c' : Nat) (fv : Value) (w : World) :
    Calls Tryd.prog 54 #[.slice A 0 c, .slice A' 0 c', fv] w fun e w' => e = .returned (.bool true) ∧ w = w' := by
  go_enter Tryd.func54, Tryd.ntmps54
  go_wp2_with fail
  refine wp_loop_rounds 1 ?_
  rw [rounds_succ]
  go_wp2_with fail
  go_ret
  exact ⟨rfl, rfl⟩
theorem list0_identity (A A' : Option Addr) (c c' : Nat) (fv : Value) (w : World) :
    Calls Tryd.prog 56 #[.slice A 0 c, .slice A' 0 c', fv] w fun e w' => e = .returned (.bool true) ∧ w = w' := by
  go_enter Tryd.func56, Tryd.ntmps56
  go_wp2_with fail
  refine wp_loop_rounds 1 ?_
  rw [rounds_succ]
  go_wp2_with fail
  go_ret
  exact ⟨rfl, rfl⟩
theorem list0_filter (A A' : Option Addr) (c c' : Nat) (fv : Value) (w : World) :
    Calls Tryd.prog 58 #[.slice A 0 c, .slice A' 0 c', fv] w fun e w' => e = .returned (.bool true) ∧ w = w' := by
  go_enter Tryd.func58, Tryd.ntmps58
  go_wp2_with fail
  refine wp_loop_rounds 1 ?_
  rw [rounds_succ]
  go_wp2_with fail
  go_ret
  exact ⟨rfl, rfl⟩
theorem list0_ext (A A' : Option Addr) (c c' : Nat) (fv : Value) (w : World) :
    Calls Tryd.prog 37 #[.slice A 0 c, .slice A' 0 c', fv] w fun e w' => e = .returned (.bool true) ∧ w = w' := by
  go_enter Tryd.func37, Tryd.ntmps37
  go_wp2_with fail
  refine wp_loop_rounds 1 ?_
  rw [rounds_succ]
  go_wp2_with fail
  go_ret
  exact ⟨rfl, rfl⟩
theorem sameExts0 (A A' : Option Addr) (c c' : Nat) (w : World) :
    Calls Tryd.prog 21 #[.slice A 0 c, .slice A' 0 c'] w fun e w' => e = .returned (.bool true) ∧ w = w' := by
  go_enter Tryd.func21, Tryd.ntmps21
  go_wp2_with fail
  refine (list0_ext A A' c c' _ _).mono ?_
  rintro e w1 ⟨rfl, rfl⟩
  go_wp2_with fail
  go_ret
  exact ⟨rfl, rfl⟩
set_option maxHeartbeats 4000000 in
theorem sameMessage0 (w : World) (cs ds : Array Value) (x0 : Int) (x1 : Bool) (x2 : Int) (x3 : Int) (x4 : Int) (x5 : List UInt8) (x6 : List UInt8) (x7 : List UInt8) (A8 B8 : Option Addr) (c8 b8 : Nat) (A9 B9 : Option Addr) (c9 b9 : Nat) (A10 B10 : Option Addr) (c10 b10 : Nat) (A11 B11 : Option Addr) (c11 b11 : Nat) (A12 B12 : Option Addr) (c12 b12 : Nat) (A13 B13 : Option Addr) (c13 b13 : Nat) (x14 : Int) (x15 : Int) (x16 : List UInt8) (x17 : List UInt8) (x18 : List UInt8) (x19 : Int) (x20 : Int) (x21 : Int) (x22 : List UInt8) (x23 : List UInt8) (A24 B24 : Option Addr) (c24 b24 : Nat)
    (e0 : cs[0]? = some (.int .u8 x0)) (d0 : ds[0]? = some (.int .u8 x0))
    (e1 : cs[1]? = some (.bool x1)) (d1 : ds[1]? = some (.bool x1))
    (e2 : cs[2]? = some (.int .u8 x2)) (d2 : ds[2]? = some (.int .u8 x2))
    (e3 : cs[3]? = some (.int .u8 x3)) (d3 : ds[3]? = some (.int .u8 x3))
    (e4 : cs[4]? = some (.int .u32 x4)) (d4 : ds[4]? = some (.int .u32 x4))
    (e5 : cs[5]? = some (.string (S x5))) (d5 : ds[5]? = some (.string (S x5)))
    (e6 : cs[6]? = some (.string (S x6))) (d6 : ds[6]? = some (.string (S x6)))
    (e7 : cs[7]? = some (.string (S x7))) (d7 : ds[7]? = some (.string (S x7)))
    (e8 : cs[8]? = some (.slice A8 0 c8)) (d8 : ds[8]? = some (.slice B8 0 b8))
    (e9 : cs[9]? = some (.slice A9 0 c9)) (d9 : ds[9]? = some (.slice B9 0 b9))
    (e10 : cs[10]? = some (.slice A10 0 c10)) (d10 : ds[10]? = some (.slice B10 0 b10))
    (e11 : cs[11]? = some (.slice A11 0 c11)) (d11 : ds[11]? = some (.slice B11 0 b11))
    (e12 : cs[12]? = some (.slice A12 0 c12)) (d12 : ds[12]? = some (.slice B12 0 b12))
    (e13 : cs[13]? = some (.slice A13 0 c13)) (d13 : ds[13]? = some (.slice B13 0 b13))
    (e14 : cs[14]? = some (.int .u16 x14)) (d14 : ds[14]? = some (.int .u16 x14))
    (e15 : cs[15]? = some (.int .u16 x15)) (d15 : ds[15]? = some (.int .u16 x15))
    (e16 : cs[16]? = some (.string (S x16))) (d16 : ds[16]? = some (.string (S x16)))
    (e17 : cs[17]? = some (.string (S x17))) (d17 : ds[17]? = some (.string (S x17)))
    (e18 : cs[18]? = some (.string (S x18))) (d18 : ds[18]? = some (.string (S x18)))
    (e19 : cs[19]? = some (.int .i64 x19)) (d19 : ds[19]? = some (.int .i64 x19))
    (e20 : cs[20]? = some (.int .u8 x20)) (d20 : ds[20]? = some (.int .u8 x20))
    (e21 : cs[21]? = some (.int .u16 x21)) (d21 : ds[21]? = some (.int .u16 x21))
    (e22 : cs[22]? = some (.string (S x22))) (d22 : ds[22]? = some (.string (S x22)))
    (e23 : cs[23]? = some (.string (S x23))) (d23 : ds[23]? = some (.string (S x23)))
    (e24 : cs[24]? = some (.slice A24 0 c24)) (d24 : ds[24]? = some (.slice B24 0 b24)) :
    Calls Tryd.prog 9 #[.agg cs, .agg ds] w fun e w' => e = .returned (.bool true) ∧ (w.alloc (.cells cs 32)).alloc (.cells ds 32) = w' := by
  go_enter Tryd.func9, Tryd.ntmps9
  go_wp2_with fail
  refine (list0_u16 A8 B8 c8 b8 _ _).mono ?_
  rintro e w1 ⟨rfl, rfl⟩
  go_wp2_with fail
  refine (list0_u8 A9 B9 c9 b9 _ _).mono ?_
  rintro e w1 ⟨rfl, rfl⟩
  go_wp2_with fail
  refine (sameExts0 A10 B10 c10 b10 _).mono ?_
  rintro e w1 ⟨rfl, rfl⟩
  go_wp2_with fail
  refine (list0_string A11 B11 c11 b11 _ _).mono ?_
  rintro e w1 ⟨rfl, rfl⟩
  go_wp2_with fail
  refine (list0_u8 A12 B12 c12 b12 _ _).mono ?_
  rintro e w1 ⟨rfl, rfl⟩
  go_wp2_with fail
  refine (list0_pair A13 B13 c13 b13 _ _).mono ?_
  rintro e w1 ⟨rfl, rfl⟩
  go_wp2_with fail
  refine (list0_entry A24 B24 c24 b24 _ _).mono ?_
  rintro e w1 ⟨rfl, rfl⟩
  go_wp2_with fail
  go_ret
  exact ⟨rfl, rfl⟩
set_option maxHeartbeats 4000000 in
theorem sameExt0 (w : World) (cs ds : Array Value) (x0 : Int) (x1 : List UInt8) (A2 B2 : Option Addr) (c2 b2 : Nat) (A3 B3 : Option Addr) (c3 b3 : Nat) (A4 B4 : Option Addr) (c4 b4 : Nat) (x5 : Bool) (x6 : Int) (x7 : Bool) (A8 B8 : Option Addr) (c8 b8 : Nat) (A9 B9 : Option Addr) (c9 b9 : Nat) (A10 B10 : Option Addr) (c10 b10 : Nat) (A11 B11 : Option Addr) (c11 b11 : Nat) (A12 B12 : Option Addr) (c12 b12 : Nat)
    (e0 : cs[0]? = some (.int .u16 x0)) (d0 : ds[0]? = some (.int .u16 x0))
    (e1 : cs[1]? = some (.string (S x1))) (d1 : ds[1]? = some (.string (S x1)))
    (e2 : cs[2]? = some (.slice A2 0 c2)) (d2 : ds[2]? = some (.slice B2 0 b2))
    (e3 : cs[3]? = some (.slice A3 0 c3)) (d3 : ds[3]? = some (.slice B3 0 b3))
    (e4 : cs[4]? = some (.slice A4 0 c4)) (d4 : ds[4]? = some (.slice B4 0 b4))
    (e5 : cs[5]? = some (.bool x5)) (d5 : ds[5]? = some (.bool x5))
    (e6 : cs[6]? = some (.int .u32 x6)) (d6 : ds[6]? = some (.int .u32 x6))
    (e7 : cs[7]? = some (.bool x7)) (d7 : ds[7]? = some (.bool x7))
    (e8 : cs[8]? = some (.slice A8 0 c8)) (d8 : ds[8]? = some (.slice B8 0 b8))
    (e9 : cs[9]? = some (.slice A9 0 c9)) (d9 : ds[9]? = some (.slice B9 0 b9))
    (e10 : cs[10]? = some (.slice A10 0 c10)) (d10 : ds[10]? = some (.slice B10 0 b10))
    (e11 : cs[11]? = some (.slice A11 0 c11)) (d11 : ds[11]? = some (.slice B11 0 b11))
    (e12 : cs[12]? = some (.slice A12 0 c12)) (d12 : ds[12]? = some (.slice B12 0 b12)) :
    Calls Tryd.prog 38 #[.agg cs, .agg ds] w fun e w' => e = .returned (.bool true) ∧ (w.alloc (.cells cs 47)).alloc (.cells ds 47) = w' := by
  go_enter Tryd.func38, Tryd.ntmps38
  go_wp2_with fail
  refine (list0_string A2 B2 c2 b2 _ _).mono ?_
  rintro e w1 ⟨rfl, rfl⟩
  go_wp2_with fail
  refine (list0_u16 A3 B3 c3 b3 _ _).mono ?_
  rintro e w1 ⟨rfl, rfl⟩
  go_wp2_with fail
  refine (list0_pair A4 B4 c4 b4 _ _).mono ?_
  rintro e w1 ⟨rfl, rfl⟩
  go_wp2_with fail
  refine (list0_share A8 B8 c8 b8 _ _).mono ?_
  rintro e w1 ⟨rfl, rfl⟩
  go_wp2_with fail
  refine (list0_share A9 B9 c9 b9 _ _).mono ?_
  rintro e w1 ⟨rfl, rfl⟩
  go_wp2_with fail
  refine (list0_u16 A10 B10 c10 b10 _ _).mono ?_
  rintro e w1 ⟨rfl, rfl⟩
  go_wp2_with fail
  refine (list0_identity A11 B11 c11 b11 _ _).mono ?_
  rintro e w1 ⟨rfl, rfl⟩
  go_wp2_with fail
  refine (list0_filter A12 B12 c12 b12 _ _).mono ?_
  rintro e w1 ⟨rfl, rfl⟩
  go_wp2_with fail
  go_ret
  exact ⟨rfl, rfl⟩
end Go.Proofs.YtfelfjdgmjapnaaDoor
