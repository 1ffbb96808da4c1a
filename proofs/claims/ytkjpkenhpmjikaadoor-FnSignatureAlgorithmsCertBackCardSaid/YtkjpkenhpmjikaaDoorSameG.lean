/- Contracts of the laws' comparison of extensions, three of the lists not empty. -/
import Derived.Test.YtkjpkenhpmjikaaDoorSame
import Derived.Test.YtkjpkenhpmjikaaDoorExt
import Derived.Test.YtkjpkenhpmjikaaDoorOps6
import Derived.Test.YtkjpkenhpmjikaaDoorNums
namespace Go.Proofs.YtkjpkenhpmjikaaDoor
open Go.RowKit Go.Cv
set_option maxRecDepth 100000
set_option linter.unusedVariables false
theorem equal_u16 (x : Int) (w : World) : Calls Tryd.prog 52 #[.int .u16 x, .int .u16 x] w fun e w' => e = .returned (.bool true) ∧ w' = w := by
  go_enter Tryd.func52, Tryd.ntmps52
  go_wp2_with fail
  go_ret
  exact ⟨by simp, rfl⟩
theorem list1_u16 (a a2 c c2 : Nat) (x : Nat) (w : World) (h1 : w.cell? ⟨a, 0, none⟩ = some (.int .u16 x)) (h2 : w.cell? ⟨a2, 0, none⟩ = some (.int .u16 x)) :
    Calls Tryd.prog 51 #[.slice (some ⟨a, 0, none⟩) 1 c, .slice (some ⟨a2, 0, none⟩) 1 c2, .func (.func 52) #[] #[]] w fun e w' => e = .returned (.bool true) ∧ Below w.heap.size w w' := by
  go_enter Tryd.func51, Tryd.ntmps51
  go_wp2_with fail
  refine wp_loop_rounds 2 ?_
  rw [rounds_succ]
  go_wp2_with fail
  go_quiet ((go_at_call 52; exact Calls.quiet_of_same (equal_u16 _ _)))
  go_wp2_with fail
  rw [rounds_succ]
  go_wp2_with fail
  go_ret
  exact ⟨rfl, by first | exact below_drew w | exact ⟨rfl, rfl, rfl, Nat.le_refl _, fun _ _ => rfl⟩⟩
set_option maxHeartbeats 4000000 in
theorem sameExtG (w : World) (cs ds : Array Value) (x0 : Int) (x1 : List UInt8) (A2 B2 : Option Addr) (c2 b2 : Nat) (A3 B3 : Option Addr) (n3 m3 c3 b3 : Nat) (A4 B4 : Option Addr) (n4 m4 c4 b4 : Nat) (x5 : Bool) (x6 : Int) (x7 : Bool) (A8 B8 : Option Addr) (c8 b8 : Nat) (A9 B9 : Option Addr) (c9 b9 : Nat) (A10 B10 : Option Addr) (n10 m10 c10 b10 : Nat) (A11 B11 : Option Addr) (c11 b11 : Nat) (A12 B12 : Option Addr) (c12 b12 : Nat)
    (e0 : cs[0]? = some (.int .u16 x0)) (d0 : ds[0]? = some (.int .u16 x0))
    (e1 : cs[1]? = some (.string (S x1))) (d1 : ds[1]? = some (.string (S x1)))
    (e2 : cs[2]? = some (.slice A2 0 c2)) (d2 : ds[2]? = some (.slice B2 0 b2))
    (e3 : cs[3]? = some (.slice A3 n3 c3)) (d3 : ds[3]? = some (.slice B3 m3 b3))
    (h3 : ∀ w', Below w.heap.size w w' → Calls Tryd.prog 51 #[.slice A3 n3 c3, .slice B3 m3 b3, .func (.func 52) #[] #[]] w' fun e w'' => e = .returned (.bool true) ∧ Below w'.heap.size w' w'')
    (e4 : cs[4]? = some (.slice A4 n4 c4)) (d4 : ds[4]? = some (.slice B4 m4 b4))
    (h4 : ∀ w', Below w.heap.size w w' → Calls Tryd.prog 53 #[.slice A4 n4 c4, .slice B4 m4 b4, .func (.func 54) #[] #[]] w' fun e w'' => e = .returned (.bool true) ∧ Below w'.heap.size w' w'')
    (e5 : cs[5]? = some (.bool x5)) (d5 : ds[5]? = some (.bool x5))
    (e6 : cs[6]? = some (.int .u32 x6)) (d6 : ds[6]? = some (.int .u32 x6))
    (e7 : cs[7]? = some (.bool x7)) (d7 : ds[7]? = some (.bool x7))
    (e8 : cs[8]? = some (.slice A8 0 c8)) (d8 : ds[8]? = some (.slice B8 0 b8))
    (e9 : cs[9]? = some (.slice A9 0 c9)) (d9 : ds[9]? = some (.slice B9 0 b9))
    (e10 : cs[10]? = some (.slice A10 n10 c10)) (d10 : ds[10]? = some (.slice B10 m10 b10))
    (h10 : ∀ w', Below w.heap.size w w' → Calls Tryd.prog 51 #[.slice A10 n10 c10, .slice B10 m10 b10, .func (.func 52) #[] #[]] w' fun e w'' => e = .returned (.bool true) ∧ Below w'.heap.size w' w'')
    (e11 : cs[11]? = some (.slice A11 0 c11)) (d11 : ds[11]? = some (.slice B11 0 b11))
    (e12 : cs[12]? = some (.slice A12 0 c12)) (d12 : ds[12]? = some (.slice B12 0 b12)) :
    Calls Tryd.prog 24 #[.agg cs, .agg ds] w fun e w' => e = .returned (.bool true) ∧ Below w.heap.size w w' := by
  have H3 := Lib.hid h3
  have H4 := Lib.hid h4
  have H10 := Lib.hid h10
  have hb0 : Below w.heap.size w ((w.alloc (.cells cs 35)).alloc (.cells ds 35)) := below_two (below_alloc _ _) (below_alloc _ _)
  have hkC : Hid (∀ w', Below ((w.alloc (.cells cs 35)).alloc (.cells ds 35)).heap.size ((w.alloc (.cells cs 35)).alloc (.cells ds 35)) w' → ∀ i, w'.cell? ⟨w.heap.size, i, none⟩ = cs[i]?) := fun w' h i => (((Blk.new w 35 cs).alloc _).keep h).cell i
  have hkD : Hid (∀ w', Below ((w.alloc (.cells cs 35)).alloc (.cells ds 35)).heap.size ((w.alloc (.cells cs 35)).alloc (.cells ds 35)) w' → ∀ i, w'.cell? ⟨w.heap.size + 1, i, none⟩ = ds[i]?) := fun w' h i => by
    have := ((Blk.new (w.alloc (.cells cs 35)) 35 ds).keep h).cell i
    simpa using this
  have HB0 := Lib.hid hb0
  clear h3 h4 h10 hb0
  go_enter Tryd.func24, Tryd.ntmps24
  go_wp2_with fail
  refine (list0_string A2 B2 c2 b2 _ _).mono ?_
  rintro e w1 ⟨rfl, rfl⟩
  go_wp2_with fail
  refine (H3.out _ HB0.out).mono ?_
  rintro e v1 ⟨rfl, g1⟩
  have q1 := g1
  have e4_1 := hkC.out _ q1 4
  rw [e4] at e4_1
  have d4_1 := hkD.out _ q1 4
  rw [d4] at d4_1
  have e8_1 := hkC.out _ q1 8
  rw [e8] at e8_1
  have d8_1 := hkD.out _ q1 8
  rw [d8] at d8_1
  have e9_1 := hkC.out _ q1 9
  rw [e9] at e9_1
  have d9_1 := hkD.out _ q1 9
  rw [d9] at d9_1
  have e10_1 := hkC.out _ q1 10
  rw [e10] at e10_1
  have d10_1 := hkD.out _ q1 10
  rw [d10] at d10_1
  have e11_1 := hkC.out _ q1 11
  rw [e11] at e11_1
  have d11_1 := hkD.out _ q1 11
  rw [d11] at d11_1
  have e12_1 := hkC.out _ q1 12
  rw [e12] at e12_1
  have d12_1 := hkD.out _ q1 12
  rw [d12] at d12_1
  go_wp2_with fail
  refine (H4.out _ (below_two HB0.out q1)).mono ?_
  rintro e v2 ⟨rfl, g2⟩
  have q2 := below_two q1 g2
  have e8_2 := hkC.out _ q2 8
  rw [e8] at e8_2
  have d8_2 := hkD.out _ q2 8
  rw [d8] at d8_2
  have e9_2 := hkC.out _ q2 9
  rw [e9] at e9_2
  have d9_2 := hkD.out _ q2 9
  rw [d9] at d9_2
  have e10_2 := hkC.out _ q2 10
  rw [e10] at e10_2
  have d10_2 := hkD.out _ q2 10
  rw [d10] at d10_2
  have e11_2 := hkC.out _ q2 11
  rw [e11] at e11_2
  have d11_2 := hkD.out _ q2 11
  rw [d11] at d11_2
  have e12_2 := hkC.out _ q2 12
  rw [e12] at e12_2
  have d12_2 := hkD.out _ q2 12
  rw [d12] at d12_2
  go_wp2_with fail
  refine (list0_share A8 B8 c8 b8 _ _).mono ?_
  rintro e w1 ⟨rfl, rfl⟩
  go_wp2_with fail
  refine (list0_share A9 B9 c9 b9 _ _).mono ?_
  rintro e w1 ⟨rfl, rfl⟩
  go_wp2_with fail
  refine (H10.out _ (below_two HB0.out q2)).mono ?_
  rintro e v3 ⟨rfl, g3⟩
  have q3 := below_two q2 g3
  have e11_3 := hkC.out _ q3 11
  rw [e11] at e11_3
  have d11_3 := hkD.out _ q3 11
  rw [d11] at d11_3
  have e12_3 := hkC.out _ q3 12
  rw [e12] at e12_3
  have d12_3 := hkD.out _ q3 12
  rw [d12] at d12_3
  go_wp2_with fail
  refine (list0_identity A11 B11 c11 b11 _ _).mono ?_
  rintro e w1 ⟨rfl, rfl⟩
  go_wp2_with fail
  refine (list0_filter A12 B12 c12 b12 _ _).mono ?_
  rintro e w1 ⟨rfl, rfl⟩
  go_wp2_with fail
  go_ret
  exact ⟨rfl, below_two HB0.out q3⟩
end Go.Proofs.YtkjpkenhpmjikaaDoor
