/- Walks: the law about the data by which a handshake is verified. -/
import Derived.Test.YtohankdfnjogfaaSpP
namespace Go.Proofs.Ytohankdfnjogfaa
open Go.RowKit Go.Cv
set_option maxRecDepth 100000
set_option linter.unusedVariables false
theorem vd_out1 (x : Int) (cl : Bool) (l1 l2 : List UInt8) (h1 : decide ((2147483647 : Int) < l1.length) = true) (w : World) :
    Calls Try.prog 4 #[.int .i64 x, .bool cl, .string (S l1), .string (S l2)] w fun e w' => e = .returned (.bool true) ∧ Below w.heap.size w w' := by
  have z1 : (S l1).size = l1.length := S_size l1
  go_enter Try.func4, Try.ntmps4
  go_wp2_with fail
  go_ret
  exact ⟨rfl, Below.refl _ _⟩
theorem vd_out2 (x : Int) (cl : Bool) (l1 l2 : List UInt8) (h1 : decide ((2147483647 : Int) < l1.length) = false) (h2 : decide ((2147483647 : Int) < l2.length) = true) (w : World) :
    Calls Try.prog 4 #[.int .i64 x, .bool cl, .string (S l1), .string (S l2)] w fun e w' => e = .returned (.bool true) ∧ Below w.heap.size w w' := by
  have z1 : (S l1).size = l1.length := S_size l1
  have z2 : (S l2).size = l2.length := S_size l2
  go_enter Try.func4, Try.ntmps4
  go_wp2_with fail
  go_ret
  exact ⟨rfl, Below.refl _ _⟩
theorem vd_bad0 (x : Int) (cl : Bool) (l1 l2 : List UInt8) (h1 : decide ((2147483647 : Int) < l1.length) = false) (h2 : decide ((2147483647 : Int) < l2.length) = false) (w : World) (HK : Hid (Calls Try.prog 5 #[.int .i64 x] w fun e w' => e = .returned (.bool false) ∧ w = w')) :
    Calls Try.prog 4 #[.int .i64 x, .bool cl, .string (S l1), .string (S l2)] w fun e w' => e = .returned (.bool true) ∧ Below w.heap.size w w' := by
  have z1 : (S l1).size = l1.length := S_size l1
  have z2 : (S l2).size = l2.length := S_size l2
  go_enter Try.func4, Try.ntmps4
  go_wp2_with fail
  refine HK.out.mono ?_
  rintro e w1 ⟨rfl, rfl⟩
  go_wp2_with fail
  go_ret
  exact ⟨rfl, Below.refl _ _⟩
theorem vd_bad1 (x : Int) (cl : Bool) (l1 l2 : List UInt8) (h1 : decide ((2147483647 : Int) < l1.length) = false) (h2 : decide ((2147483647 : Int) < l2.length) = false) (w : World) (HK : Hid (Calls Try.prog 5 #[.int .i64 x] w fun e w' => e = .returned (.bool true) ∧ w = w')) (HF : Hid (∀ (w : World) (r : Nat), w.cell? ⟨r, 0, none⟩ = some (.string (S l1)) → w.cell? ⟨r, 1, none⟩ = some (.string (S l2)) → Calls Try.prog 6 #[.slice (some ⟨r, 0, none⟩) 2 2] w fun e w' => e = .returned (.bool false) ∧ w = w')) :
    Calls Try.prog 4 #[.int .i64 x, .bool cl, .string (S l1), .string (S l2)] w fun e w' => e = .returned (.bool true) ∧ Below w.heap.size w w' := by
  have z1 : (S l1).size = l1.length := S_size l1
  have z2 : (S l2).size = l2.length := S_size l2
  go_enter Try.func4, Try.ntmps4
  go_wp2_with fail
  refine HK.out.mono ?_
  rintro e w1 ⟨rfl, rfl⟩
  go_wp2_with fail
  refine (HF.out _ w.heap.size (by simp) (by simp)).mono ?_
  rintro e w2 ⟨rfl, rfl⟩
  go_wp2_with fail
  go_ret
  exact ⟨rfl, below_alloc _ _⟩
set_option maxHeartbeats 2000000 in
theorem vd_in (kind : Nat) (cl : Bool) (l1 l2 : List UInt8) (hk : kind < 64) (h1 : decide ((2147483647 : Int) < l1.length) = false) (h2 : decide ((2147483647 : Int) < l2.length) = false) (hs1 : l1.length ≤ 2000) (hs2 : l2.length ≤ 2000) (w : World) (HK : Hid (Calls Try.prog 5 #[.int .i64 (kind : Nat)] w fun e w' => e = .returned (.bool true) ∧ w = w')) (HF : Hid (∀ (w : World) (r : Nat), w.cell? ⟨r, 0, none⟩ = some (.string (S l1)) → w.cell? ⟨r, 1, none⟩ = some (.string (S l2)) → Calls Try.prog 6 #[.slice (some ⟨r, 0, none⟩) 2 2] w fun e w' => e = .returned (.bool true) ∧ w = w')) :
    Calls Try.prog 4 #[.int .i64 (kind : Nat), .bool cl, .string (S l1), .string (S l2)] w fun e w' => e = .returned (.bool true) ∧ Below w.heap.size w w' := by
  have HP1 := Lib.hid (fun w => implVd kind cl hk l1 l2 (by omega) (by omega) w)
  have HP2 := Lib.hid (fun w => s_vd kind cl hk l1 l2 (by omega) (by omega) w)
  have z1 : (S l1).size = l1.length := S_size l1
  have z2 : (S l2).size = l2.length := S_size l2
  clear hs1 hs2 hk
  go_enter Try.func4, Try.ntmps4
  go_wp2_with fail
  refine HK.out.mono ?_
  rintro e w1 ⟨rfl, rfl⟩
  go_wp2_with fail
  refine (HF.out _ w.heap.size (by simp) (by simp)).mono ?_
  rintro e w2 ⟨rfl, rfl⟩
  go_wp2_with fail
  refine (HP1.out _).mono ?_
  rintro e w3 ⟨k1, rfl, hk1, hb3⟩
  have HB3 := Lib.hid (below_two (below_alloc _ _) hb3)
  have HK1 := Lib.hid hk1
  clear hk1 hb3 z1 z2 h1 h2
  obtain ⟨p1, hp1⟩ : ∃ p, (phOut kind l1 (vdLabel cl ++ toySum kind l2) k1).take 12 = p := ⟨_, rfl⟩
  have z1 : (S p1).size = 12 := by rw [S_size, ← hp1, List.length_take, phOut_length]; have := HK1.out; omega
  rw [hp1]
  have HQ := Lib.hid hp1
  clear hp1
  go_wp2_with fail
  refine (HP2.out _).mono ?_
  rintro e w4 ⟨k2, rfl, hk2, hb4⟩
  have HB4 := Lib.hid (below_two HB3.out hb4)
  rw [phOut_take kind l1 (vdLabel cl ++ toySum kind l2) k2 k1 12 hk2 HK1.out, HQ.out]
  clear hk2 hb4
  go_wp2_with fail
  go_ret
  exact ⟨by simp, HB4.out⟩
theorem vd_row (x : Int) (hx : (Lit.int .i64 x).wf = true) (cl : Bool) (l1 l2 : List UInt8) (w : World) :
    Calls Try.prog 4 #[.int .i64 x, .bool cl, .string (S l1), .string (S l2)] w fun e w' => e = .returned (.bool true) ∧ Below w.heap.size w w' := by
  cases h1 : decide ((2147483647 : Int) < l1.length) with
  | true => exact vd_out1 x cl l1 l2 h1 w
  | false =>
  cases h2 : decide ((2147483647 : Int) < l2.length) with
  | true => exact vd_out2 x cl l1 l2 h1 h2 w
  | false =>
  by_cases hx0 : x < 0 ∨ 64 ≤ x
  · exact vd_bad0 x cl l1 l2 h1 h2 w (Lib.hid (keyHash_no x hx0 w))
  obtain ⟨kind, rfl⟩ := Int.eq_ofNat_of_zero_le (show 0 ≤ x by omega)
  have hk : kind < 64 := by omega
  have HK := keyHash_in kind hk w
  cases hb : decide (toySize kind ≤ toyBlock kind) with
  | false => rw [hb] at HK; exact vd_bad0 kind cl l1 l2 h1 h2 w (Lib.hid HK)
  | true =>
  rw [hb] at HK
  have HF : ∀ (w : World) (r : Nat), w.cell? ⟨r, 0, none⟩ = some (.string (S l1)) → w.cell? ⟨r, 1, none⟩ = some (.string (S l2)) → Calls Try.prog 6 #[.slice (some ⟨r, 0, none⟩) 2 2] w fun e w' => e = .returned (.bool ([l1, l2].all fun l => decide (l.length ≤ 2000))) ∧ w = w' := fun w r c0 c1 => few_any r 2 [l1, l2] rfl (by omega) w (fun i hi => by
    rcases (by omega : i = 0 ∨ i = 1) with rfl | rfl
    · exact c0
    · exact c1)
  cases hf : [l1, l2].all fun l => decide (l.length ≤ 2000) with
  | false => rw [hf] at HF; exact vd_bad1 kind cl l1 l2 h1 h2 w (Lib.hid HK) (Lib.hid HF)
  | true =>
  rw [hf] at HF
  have hs : l1.length ≤ 2000 ∧ l2.length ≤ 2000 := by simpa using hf
  exact vd_in kind cl l1 l2 hk h1 h2 hs.1 hs.2 w (Lib.hid HK) (Lib.hid HF)
end Go.Proofs.Ytohankdfnjogfaa
