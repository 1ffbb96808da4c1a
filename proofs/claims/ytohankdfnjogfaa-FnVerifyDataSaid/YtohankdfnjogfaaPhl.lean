/- Plain laws: bytes drawn out of a keyed hash. -/
import Derived.Test.YtohankdfnjogfaaHm
namespace Go.Cv
open Go.RowKit
set_option linter.unusedVariables false
def phA (kind : Nat) (key seed : List UInt8) : Nat → List UInt8
  | 0 => seed
  | j + 1 => toyHmac kind key (phA kind key seed j)
def phOut (kind : Nat) (key seed : List UInt8) : Nat → List UInt8
  | 0 => []
  | j + 1 => phOut kind key seed j ++ toyHmac kind key (phA kind key seed (j + 1) ++ seed)
theorem phA_length (kind : Nat) (key seed : List UInt8) (j : Nat) : (phA kind key seed (j + 1)).length = toySize kind := toyHmac_length _ _ _
theorem phOut_length (kind : Nat) (key seed : List UInt8) (j : Nat) : (phOut kind key seed j).length = j * toySize kind := by
  induction j with
  | zero => simp [phOut]
  | succ j ih => rw [phOut, List.length_append, ih, toyHmac_length, Nat.succ_mul]
theorem phOut_prefix (kind : Nat) (key seed : List UInt8) (i j : Nat) (h : i ≤ j) : (phOut kind key seed i) <+: (phOut kind key seed j) := by
  induction j with
  | zero => obtain rfl : i = 0 := by omega
            exact List.prefix_refl _
  | succ j ih =>
    rcases Nat.lt_or_ge i (j + 1) with h1 | h1
    · exact (ih (by omega)).trans (List.prefix_append _ _)
    · obtain rfl : i = j + 1 := by omega
      exact List.prefix_refl _
/-- The first n bytes do not turn on how many rounds were run. -/
theorem phOut_take (kind : Nat) (key seed : List UInt8) (i j n : Nat) (h1 : n ≤ i * toySize kind) (h2 : n ≤ j * toySize kind) : (phOut kind key seed i).take n = (phOut kind key seed j).take n := by
  have key1 : ∀ i j, i ≤ j → n ≤ i * toySize kind → (phOut kind key seed i).take n = (phOut kind key seed j).take n := by
    intro i j hij hn
    obtain ⟨t, ht⟩ := phOut_prefix kind key seed i j hij
    rw [← ht, List.take_append_of_le_length (by rw [phOut_length]; exact hn)]
  rcases Nat.le_total i j with h | h
  · exact key1 i j h h1
  · exact (key1 j i h h2).symm
end Go.Cv
