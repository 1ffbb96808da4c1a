/- Plain laws: how many rounds a float's ceiling counts. -/
import Derived.Test.YtohankdfnjogfaaToy
import Derived.Laws.FloatArith
import Derived.KernelRfl
namespace Go.Cv
open Go.RowKit
set_option maxRecDepth 100000
set_option linter.unusedVariables false
def ceilW (x : Nat) : Nat := FloatKind.f64.encode ((FloatKind.f64.decode x).integral .up)
/-- How many rounds: the quotient of two floats, made whole upwards. -/
def itersOk (n s : Nat) : Bool :=
  match floatBits .quo .f64 (floatOfInt .f64 n) (floatOfInt .f64 s) with
  | none => false
  | some q => !(FloatKind.f64.decode q).isNaN && match floatToIntVal .f64 (ceilW q) .i64 with
    | some (.ofNat k) => decide (n ≤ k * s) && decide (k ≤ n)
    | _ => false
theorem iters_0_0 : ((List.range 500).all fun n => itersOk (n + 1 + 0) 4) = true := by kernel_rfl
theorem iters_0_1 : ((List.range 500).all fun n => itersOk (n + 1 + 500) 4) = true := by kernel_rfl
theorem iters_0_2 : ((List.range 500).all fun n => itersOk (n + 1 + 1000) 4) = true := by kernel_rfl
theorem iters_0_3 : ((List.range 500).all fun n => itersOk (n + 1 + 1500) 4) = true := by kernel_rfl
theorem iters_1_0 : ((List.range 500).all fun n => itersOk (n + 1 + 0) 8) = true := by kernel_rfl
theorem iters_1_1 : ((List.range 500).all fun n => itersOk (n + 1 + 500) 8) = true := by kernel_rfl
theorem iters_1_2 : ((List.range 500).all fun n => itersOk (n + 1 + 1000) 8) = true := by kernel_rfl
theorem iters_1_3 : ((List.range 500).all fun n => itersOk (n + 1 + 1500) 8) = true := by kernel_rfl
theorem iters_2_0 : ((List.range 500).all fun n => itersOk (n + 1 + 0) 12) = true := by kernel_rfl
theorem iters_2_1 : ((List.range 500).all fun n => itersOk (n + 1 + 500) 12) = true := by kernel_rfl
theorem iters_2_2 : ((List.range 500).all fun n => itersOk (n + 1 + 1000) 12) = true := by kernel_rfl
theorem iters_2_3 : ((List.range 500).all fun n => itersOk (n + 1 + 1500) 12) = true := by kernel_rfl
theorem iters_3_0 : ((List.range 500).all fun n => itersOk (n + 1 + 0) 16) = true := by kernel_rfl
theorem iters_3_1 : ((List.range 500).all fun n => itersOk (n + 1 + 500) 16) = true := by kernel_rfl
theorem iters_3_2 : ((List.range 500).all fun n => itersOk (n + 1 + 1000) 16) = true := by kernel_rfl
theorem iters_3_3 : ((List.range 500).all fun n => itersOk (n + 1 + 1500) 16) = true := by kernel_rfl
theorem iters_4_0 : ((List.range 500).all fun n => itersOk (n + 1 + 0) 20) = true := by kernel_rfl
theorem iters_4_1 : ((List.range 500).all fun n => itersOk (n + 1 + 500) 20) = true := by kernel_rfl
theorem iters_4_2 : ((List.range 500).all fun n => itersOk (n + 1 + 1000) 20) = true := by kernel_rfl
theorem iters_4_3 : ((List.range 500).all fun n => itersOk (n + 1 + 1500) 20) = true := by kernel_rfl
theorem iters_5_0 : ((List.range 500).all fun n => itersOk (n + 1 + 0) 24) = true := by kernel_rfl
theorem iters_5_1 : ((List.range 500).all fun n => itersOk (n + 1 + 500) 24) = true := by kernel_rfl
theorem iters_5_2 : ((List.range 500).all fun n => itersOk (n + 1 + 1000) 24) = true := by kernel_rfl
theorem iters_5_3 : ((List.range 500).all fun n => itersOk (n + 1 + 1500) 24) = true := by kernel_rfl
theorem iters_6_0 : ((List.range 500).all fun n => itersOk (n + 1 + 0) 28) = true := by kernel_rfl
theorem iters_6_1 : ((List.range 500).all fun n => itersOk (n + 1 + 500) 28) = true := by kernel_rfl
theorem iters_6_2 : ((List.range 500).all fun n => itersOk (n + 1 + 1000) 28) = true := by kernel_rfl
theorem iters_6_3 : ((List.range 500).all fun n => itersOk (n + 1 + 1500) 28) = true := by kernel_rfl
theorem iters_7_0 : ((List.range 500).all fun n => itersOk (n + 1 + 0) 32) = true := by kernel_rfl
theorem iters_7_1 : ((List.range 500).all fun n => itersOk (n + 1 + 500) 32) = true := by kernel_rfl
theorem iters_7_2 : ((List.range 500).all fun n => itersOk (n + 1 + 1000) 32) = true := by kernel_rfl
theorem iters_7_3 : ((List.range 500).all fun n => itersOk (n + 1 + 1500) 32) = true := by kernel_rfl
theorem all_at {f : Nat → Bool} {m : Nat} (h : (List.range m).all f = true) (n : Nat) (hn : n < m) : f n = true := by
  rw [List.all_eq_true] at h
  exact h n (List.mem_range.2 hn)
theorem iters_at (s : Nat) (h0 : ((List.range 500).all fun n => itersOk (n + 1 + 0) s) = true) (h1 : ((List.range 500).all fun n => itersOk (n + 1 + 500) s) = true) (h2 : ((List.range 500).all fun n => itersOk (n + 1 + 1000) s) = true) (h3 : ((List.range 500).all fun n => itersOk (n + 1 + 1500) s) = true) (n : Nat) (h4 : 1 ≤ n) (h5 : n ≤ 2000) : itersOk n s = true := by
  rcases (by omega : n ≤ 500 ∨ (500 < n ∧ n ≤ 1000) ∨ (1000 < n ∧ n ≤ 1500) ∨ 1500 < n) with h | h | h | h
  · have := all_at h0 (n - 1) (by omega); rwa [show n - 1 + 1 + 0 = n from by omega] at this
  · have := all_at h1 (n - 501) (by omega); rwa [show n - 501 + 1 + 500 = n from by omega] at this
  · have := all_at h2 (n - 1001) (by omega); rwa [show n - 1001 + 1 + 1000 = n from by omega] at this
  · have := all_at h3 (n - 1501) (by omega); rwa [show n - 1501 + 1 + 1500 = n from by omega] at this
theorem iters_all (n s : Nat) (h1 : 1 ≤ n) (h2 : n ≤ 2000) (hs : ∃ i, i < 8 ∧ s = 4 + 4 * i) : itersOk n s = true := by
  obtain ⟨i, hi, rfl⟩ := hs
  rcases (by omega : i = 0 ∨ i = 1 ∨ i = 2 ∨ i = 3 ∨ i = 4 ∨ i = 5 ∨ i = 6 ∨ i = 7) with rfl | rfl | rfl | rfl | rfl | rfl | rfl | rfl
  · exact iters_at 4 iters_0_0 iters_0_1 iters_0_2 iters_0_3 n h1 h2
  · exact iters_at 8 iters_1_0 iters_1_1 iters_1_2 iters_1_3 n h1 h2
  · exact iters_at 12 iters_2_0 iters_2_1 iters_2_2 iters_2_3 n h1 h2
  · exact iters_at 16 iters_3_0 iters_3_1 iters_3_2 iters_3_3 n h1 h2
  · exact iters_at 20 iters_4_0 iters_4_1 iters_4_2 iters_4_3 n h1 h2
  · exact iters_at 24 iters_5_0 iters_5_1 iters_5_2 iters_5_3 n h1 h2
  · exact iters_at 28 iters_6_0 iters_6_1 iters_6_2 iters_6_3 n h1 h2
  · exact iters_at 32 iters_7_0 iters_7_1 iters_7_2 iters_7_3 n h1 h2
theorem iters_ok (n s : Nat) (h1 : 1 ≤ n) (h2 : n ≤ 2000) (hs : ∃ i, i < 8 ∧ s = 4 + 4 * i) : ∃ q k : Nat, floatBits .quo .f64 (floatOfInt .f64 n) (floatOfInt .f64 s) = some q ∧ (FloatKind.f64.decode q).isNaN = false ∧ floatToIntVal .f64 (ceilW q) .i64 = some (k : Int) ∧ n ≤ k * s ∧ k ≤ n := by
  have h := iters_all n s h1 h2 hs
  unfold itersOk at h
  split at h
  · cases h
  · rename_i q hq
    rw [Bool.and_eq_true] at h
    obtain ⟨h3, h4⟩ := h
    split at h4
    · rename_i k hk
      rw [Bool.and_eq_true] at h4
      exact ⟨q, k, hq, by simpa using h3, hk, of_decide_eq_true h4.1, of_decide_eq_true h4.2⟩
    · cases h4
end Go.Cv
