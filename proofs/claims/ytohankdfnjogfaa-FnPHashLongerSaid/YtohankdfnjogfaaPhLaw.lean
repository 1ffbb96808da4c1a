/- Walks: the law that a longer P_hash begins as the shorter one. -/
import Derived.Test.YtohankdfnjogfaaPh4
namespace Go.Proofs.Ytohankdfnjogfaa
open Go.RowKit Go.Cv
set_option maxRecDepth 100000
set_option linter.unusedVariables false
theorem le_max31 (n : Nat) (h : decide ((2147483647 : Int) < n) = false) : n ≤ 2147483647 := by
  have := of_decide_eq_false h; omega
theorem phl_out1 (x n m : Int) (l1 l2 : List UInt8) (h1 : decide ((2147483647 : Int) < l1.length) = true) (w : World) :
    Calls Try.prog 3 #[.int .i64 x, .string (S l1), .string (S l2), .int .i64 n, .int .i64 m] w fun e w' => e = .returned (.bool true) ∧ Below w.heap.size w w' := by
  have z1 : (S l1).size = l1.length := S_size l1
  go_enter Try.func3, Try.ntmps3
  go_wp2_with fail
  go_ret
  exact ⟨rfl, Below.refl _ _⟩
theorem phl_out2 (x n m : Int) (l1 l2 : List UInt8) (h1 : decide ((2147483647 : Int) < l1.length) = false) (h2 : decide ((2147483647 : Int) < l2.length) = true) (w : World) :
    Calls Try.prog 3 #[.int .i64 x, .string (S l1), .string (S l2), .int .i64 n, .int .i64 m] w fun e w' => e = .returned (.bool true) ∧ Below w.heap.size w w' := by
  have z1 : (S l1).size = l1.length := S_size l1
  have z2 : (S l2).size = l2.length := S_size l2
  go_enter Try.func3, Try.ntmps3
  go_wp2_with fail
  go_ret
  exact ⟨rfl, Below.refl _ _⟩
theorem phl_bad0 (x n m : Int) (l1 l2 : List UInt8) (h1 : decide ((2147483647 : Int) < l1.length) = false) (h2 : decide ((2147483647 : Int) < l2.length) = false) (w : World) (HK : Hid (Calls Try.prog 5 #[.int .i64 x] w fun e w' => e = .returned (.bool false) ∧ w = w')) :
    Calls Try.prog 3 #[.int .i64 x, .string (S l1), .string (S l2), .int .i64 n, .int .i64 m] w fun e w' => e = .returned (.bool true) ∧ Below w.heap.size w w' := by
  have z1 : (S l1).size = l1.length := S_size l1
  have z2 : (S l2).size = l2.length := S_size l2
  go_enter Try.func3, Try.ntmps3
  go_wp2_with fail
  refine HK.out.mono ?_
  rintro e w1 ⟨rfl, rfl⟩
  go_wp2_with fail
  go_ret
  exact ⟨rfl, by first | exact Below.refl _ _ | assumption⟩
theorem phl_bad1 (x n m : Int) (l1 l2 : List UInt8) (h1 : decide ((2147483647 : Int) < l1.length) = false) (h2 : decide ((2147483647 : Int) < l2.length) = false)  (t0 : decide (n < 1) = true) (w : World) (HK : Hid (Calls Try.prog 5 #[.int .i64 x] w fun e w' => e = .returned (.bool true) ∧ w = w')) :
    Calls Try.prog 3 #[.int .i64 x, .string (S l1), .string (S l2), .int .i64 n, .int .i64 m] w fun e w' => e = .returned (.bool true) ∧ Below w.heap.size w w' := by
  have z1 : (S l1).size = l1.length := S_size l1
  have z2 : (S l2).size = l2.length := S_size l2
  go_enter Try.func3, Try.ntmps3
  go_wp2_with fail
  refine HK.out.mono ?_
  rintro e w1 ⟨rfl, rfl⟩
  go_wp2_with fail
  go_ret
  exact ⟨rfl, by first | exact Below.refl _ _ | assumption⟩
theorem phl_bad2 (x n m : Int) (l1 l2 : List UInt8) (h1 : decide ((2147483647 : Int) < l1.length) = false) (h2 : decide ((2147483647 : Int) < l2.length) = false) (t0 : decide (n < 1) = false) (t1 : decide (m < 0) = true) (w : World) (HK : Hid (Calls Try.prog 5 #[.int .i64 x] w fun e w' => e = .returned (.bool true) ∧ w = w')) :
    Calls Try.prog 3 #[.int .i64 x, .string (S l1), .string (S l2), .int .i64 n, .int .i64 m] w fun e w' => e = .returned (.bool true) ∧ Below w.heap.size w w' := by
  have z1 : (S l1).size = l1.length := S_size l1
  have z2 : (S l2).size = l2.length := S_size l2
  go_enter Try.func3, Try.ntmps3
  go_wp2_with fail
  refine HK.out.mono ?_
  rintro e w1 ⟨rfl, rfl⟩
  go_wp2_with fail
  go_ret
  exact ⟨rfl, by first | exact Below.refl _ _ | assumption⟩
theorem phl_bad3 (x n m : Int) (l1 l2 : List UInt8) (h1 : decide ((2147483647 : Int) < l1.length) = false) (h2 : decide ((2147483647 : Int) < l2.length) = false) (t0 : decide (n < 1) = false) (t1 : decide (m < 0) = false) (t2 : decide (1000 < n) = true) (w : World) (HK : Hid (Calls Try.prog 5 #[.int .i64 x] w fun e w' => e = .returned (.bool true) ∧ w = w')) :
    Calls Try.prog 3 #[.int .i64 x, .string (S l1), .string (S l2), .int .i64 n, .int .i64 m] w fun e w' => e = .returned (.bool true) ∧ Below w.heap.size w w' := by
  have z1 : (S l1).size = l1.length := S_size l1
  have z2 : (S l2).size = l2.length := S_size l2
  go_enter Try.func3, Try.ntmps3
  go_wp2_with fail
  refine HK.out.mono ?_
  rintro e w1 ⟨rfl, rfl⟩
  go_wp2_with fail
  go_ret
  exact ⟨rfl, by first | exact Below.refl _ _ | assumption⟩
theorem phl_bad4 (x n m : Int) (l1 l2 : List UInt8) (h1 : decide ((2147483647 : Int) < l1.length) = false) (h2 : decide ((2147483647 : Int) < l2.length) = false) (t0 : decide (n < 1) = false) (t1 : decide (m < 0) = false) (t2 : decide (1000 < n) = false) (t3 : decide (1000 < m) = true) (w : World) (HK : Hid (Calls Try.prog 5 #[.int .i64 x] w fun e w' => e = .returned (.bool true) ∧ w = w')) :
    Calls Try.prog 3 #[.int .i64 x, .string (S l1), .string (S l2), .int .i64 n, .int .i64 m] w fun e w' => e = .returned (.bool true) ∧ Below w.heap.size w w' := by
  have z1 : (S l1).size = l1.length := S_size l1
  have z2 : (S l2).size = l2.length := S_size l2
  go_enter Try.func3, Try.ntmps3
  go_wp2_with fail
  refine HK.out.mono ?_
  rintro e w1 ⟨rfl, rfl⟩
  go_wp2_with fail
  go_ret
  exact ⟨rfl, by first | exact Below.refl _ _ | assumption⟩
set_option maxHeartbeats 1000000 in
theorem phl_bad5 (x n m : Int) (l1 l2 : List UInt8) (h1 : decide ((2147483647 : Int) < l1.length) = false) (h2 : decide ((2147483647 : Int) < l2.length) = false) (t0 : decide (n < 1) = false) (t1 : decide (m < 0) = false) (t2 : decide (1000 < n) = false) (t3 : decide (1000 < m) = false) (w : World) (HK : Hid (Calls Try.prog 5 #[.int .i64 x] w fun e w' => e = .returned (.bool true) ∧ w = w')) (HF : Hid (∀ (w : World) (r : Nat), w.cell? ⟨r, 0, none⟩ = some (.string (S l1)) → w.cell? ⟨r, 1, none⟩ = some (.string (S l2)) → Calls Try.prog 6 #[.slice (some ⟨r, 0, none⟩) 2 2] w fun e w' => e = .returned (.bool false) ∧ w = w')) :
    Calls Try.prog 3 #[.int .i64 x, .string (S l1), .string (S l2), .int .i64 n, .int .i64 m] w fun e w' => e = .returned (.bool true) ∧ Below w.heap.size w w' := by
  have z1 : (S l1).size = l1.length := S_size l1
  have z2 : (S l2).size = l2.length := S_size l2
  go_enter Try.func3, Try.ntmps3
  go_wp2_with fail
  refine HK.out.mono ?_
  rintro e w1 ⟨rfl, rfl⟩
  go_wp2_with fail
  refine (HF.out _ w.heap.size (by simp) (by simp)).mono ?_
  rintro e w2 ⟨rfl, rfl⟩
  go_wp2_with fail
  go_ret
  exact ⟨rfl, below_alloc _ _⟩
set_option maxHeartbeats 2000000 in
theorem phl_in (kind N M : Nat) (l1 l2 : List UInt8) (hk : kind < 64) (h1 : decide ((2147483647 : Int) < l1.length) = false) (h2 : decide ((2147483647 : Int) < l2.length) = false) (t0 : decide ((N : Int) < 1) = false) (t1 : decide ((M : Int) < 0) = false) (t2 : decide (1000 < (N : Int)) = false) (t3 : decide (1000 < (M : Int)) = false) (hs1 : l1.length ≤ 2000) (hs2 : l2.length ≤ 2000) (w : World)
    (HK : Hid (Calls Try.prog 5 #[.int .i64 (kind : Nat)] w fun e w' => e = .returned (.bool true) ∧ w = w'))
    (HF : Hid (∀ (w : World) (r : Nat), w.cell? ⟨r, 0, none⟩ = some (.string (S l1)) → w.cell? ⟨r, 1, none⟩ = some (.string (S l2)) → Calls Try.prog 6 #[.slice (some ⟨r, 0, none⟩) 2 2] w fun e w' => e = .returned (.bool true) ∧ w = w')) :
    Calls Try.prog 3 #[.int .i64 (kind : Nat), .string (S l1), .string (S l2), .int .i64 N, .int .i64 M] w fun e w' => e = .returned (.bool true) ∧ Below w.heap.size w w' := by
  have n1 : 1 ≤ N := by have := of_decide_eq_false t0; omega
  have n2 : N ≤ 1000 := by have := of_decide_eq_false t2; omega
  have m2 : M ≤ 1000 := by have := of_decide_eq_false t3; omega
  obtain ⟨T, hT⟩ : ∃ T, N + M = T := ⟨_, rfl⟩
  have HP1 := Lib.hid (fun w => implPHash kind N hk n1 (by omega) l1 l2 (by omega) (by omega) w)
  have HP2 := Lib.hid (fun w => implPHash kind T hk (by omega) (by omega) l1 l2 (by omega) (by omega) w)
  have e1 : (N : Int) + M = (T : Int) := by omega
  have e2 : wrap64 ((T : Int)) = (T : Int) := by unfold wrap64; omega
  have HN := Lib.hid (And.intro n1 (And.intro (show N ≤ T by omega) (show T ≤ 2000 by omega)))
  have z1 : (S l1).size = l1.length := S_size l1
  have z2 : (S l2).size = l2.length := S_size l2
  clear n1 n2 m2 hT hs1 hs2 hk
  go_enter Try.func3, Try.ntmps3
  go_wp2_with fail
  refine HK.out.mono ?_
  rintro e w1 ⟨rfl, rfl⟩
  go_wp2_with fail
  refine (HF.out _ w.heap.size (by simp) (by simp)).mono ?_
  rintro e w2 ⟨rfl, rfl⟩
  go_wp2_with fail
  refine (HP1.out _).mono ?_
  rintro e w3 ⟨k1, rfl, hk1, hb3⟩
  have HB3 := Lib.hid (below_two (below_alloc _ _) hb3)
  have HK1 := Lib.hid hk1
  clear hk1 hb3
  go_wp2_with fail
  refine (HP2.out _).mono ?_
  rintro e w4 ⟨k2, rfl, hk2, hb4⟩
  have HB4 := Lib.hid (below_two HB3.out hb4)
  have HK2 := Lib.hid hk2
  clear hk2 hb4 z1 z2 h1 h2
  obtain ⟨p1, hp1⟩ : ∃ p, (phOut kind l1 l2 k1).take N = p := ⟨_, rfl⟩
  obtain ⟨p2, hp2⟩ : ∃ p, (phOut kind l1 l2 k2).take T = p := ⟨_, rfl⟩
  have hN := HN.out
  have z1 : (S p1).size = N := by rw [S_size, ← hp1, List.length_take, phOut_length]; have := HK1.out; omega
  have z2 : (S p2).size = T := by rw [S_size, ← hp2, List.length_take, phOut_length]; have := HK2.out; omega
  have HE : Hid (p2.take N = p1) := Lib.hid (by rw [← hp1, ← hp2, List.take_take, Nat.min_eq_left hN.2.1]; exact phOut_take _ _ _ _ _ _ (by have := HK2.out; omega) HK1.out)
  have i1 : (N : Int) ≤ T := by omega
  have i2 : ¬ (T : Int) < N := by omega
  rw [hp1, hp2]
  clear hp1 hp2 hN
  go_wp2_with fail
  rw [S_extract, List.drop_zero, HE.out]
  go_ret
  exact ⟨by simp, HB4.out⟩
theorem phl_row (x : Int) (hx : (Lit.int .i64 x).wf = true) (l1 l2 : List UInt8) (n : Int) (hn : (Lit.int .i64 n).wf = true) (m : Int) (hm : (Lit.int .i64 m).wf = true) (w : World) :
    Calls Try.prog 3 #[.int .i64 x, .string (S l1), .string (S l2), .int .i64 n, .int .i64 m] w fun e w' => e = .returned (.bool true) ∧ Below w.heap.size w w' := by
  cases h1 : decide ((2147483647 : Int) < l1.length) with
  | true => exact phl_out1 x n m l1 l2 h1 w
  | false =>
  cases h2 : decide ((2147483647 : Int) < l2.length) with
  | true => exact phl_out2 x n m l1 l2 h1 h2 w
  | false =>
  by_cases hx0 : x < 0 ∨ 64 ≤ x
  · exact phl_bad0 x n m l1 l2 h1 h2 w (Lib.hid (keyHash_no x hx0 w))
  obtain ⟨kind, rfl⟩ := Int.eq_ofNat_of_zero_le (show 0 ≤ x by omega)
  have hk : kind < 64 := by omega
  have HK := keyHash_in kind hk w
  cases hb : decide (toySize kind ≤ toyBlock kind) with
  | false => rw [hb] at HK; exact phl_bad0 kind n m l1 l2 h1 h2 w (Lib.hid HK)
  | true =>
  rw [hb] at HK
  cases t0 : decide (n < 1) with
  | true => exact phl_bad1 kind n m l1 l2 h1 h2 t0 w (Lib.hid HK)
  | false =>
  cases t1 : decide (m < 0) with
  | true => exact phl_bad2 kind n m l1 l2 h1 h2 t0 t1 w (Lib.hid HK)
  | false =>
  cases t2 : decide (1000 < n) with
  | true => exact phl_bad3 kind n m l1 l2 h1 h2 t0 t1 t2 w (Lib.hid HK)
  | false =>
  cases t3 : decide (1000 < m) with
  | true => exact phl_bad4 kind n m l1 l2 h1 h2 t0 t1 t2 t3 w (Lib.hid HK)
  | false =>
  have HF : ∀ (w : World) (r : Nat), w.cell? ⟨r, 0, none⟩ = some (.string (S l1)) → w.cell? ⟨r, 1, none⟩ = some (.string (S l2)) → Calls Try.prog 6 #[.slice (some ⟨r, 0, none⟩) 2 2] w fun e w' => e = .returned (.bool ([l1, l2].all fun l => decide (l.length ≤ 2000))) ∧ w = w' := fun w r c0 c1 => few_any r 2 [l1, l2] rfl (by omega) w (fun i hi => by
    rcases (by omega : i = 0 ∨ i = 1) with rfl | rfl
    · exact c0
    · exact c1)
  cases hf : [l1, l2].all fun l => decide (l.length ≤ 2000) with
  | false => rw [hf] at HF; exact phl_bad5 kind n m l1 l2 h1 h2 t0 t1 t2 t3 w (Lib.hid HK) (Lib.hid HF)
  | true =>
  rw [hf] at HF
  have hs : l1.length ≤ 2000 ∧ l2.length ≤ 2000 := by simpa using hf
  have n1 := of_decide_eq_false t0
  have m1 := of_decide_eq_false t1
  obtain ⟨N, rfl⟩ := Int.eq_ofNat_of_zero_le (show 0 ≤ n by omega)
  obtain ⟨M, rfl⟩ := Int.eq_ofNat_of_zero_le (show 0 ≤ m by omega)
  exact phl_in kind N M l1 l2 hk h1 h2 t0 t1 t2 t3 hs.1 hs.2 w (Lib.hid HK) (Lib.hid HF)
end Go.Proofs.Ytohankdfnjogfaa
