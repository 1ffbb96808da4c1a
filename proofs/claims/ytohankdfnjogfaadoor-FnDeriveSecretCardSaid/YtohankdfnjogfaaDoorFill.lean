/- Plain laws: a row that is filled place by place. -/
import Derived.Test.YtohankdfnjogfaaDoorHm
namespace Go.Cv
open Go.RowKit
set_option linter.unusedVariables false
/-- The first j bytes of l, zeros behind them. -/
def fillPart (l : List UInt8) (j : Nat) : List UInt8 := l.take j ++ List.replicate (l.length - j) 0
theorem fillPart_zero (l : List UInt8) : fillPart l 0 = List.replicate l.length 0 := by simp [fillPart]
theorem fillPart_all (l : List UInt8) : fillPart l l.length = l := by simp [fillPart]
theorem fillPart_step (l : List UInt8) (j : Nat) (hj : j < l.length) : (fillPart l j).set j (l.getD j 0) = fillPart l (j + 1) := by
  have hl : (l.take j).length = j := by simp; omega
  unfold fillPart
  rw [List.set_append_right _ _ (by omega), hl, Nat.sub_self]
  obtain ⟨d, hd⟩ : ∃ d, l.length - j = d + 1 := ⟨l.length - j - 1, by omega⟩
  have hd2 : l.length - (j + 1) = d := by omega
  rw [hd, hd2, List.replicate_succ, List.set_cons_zero, List.take_succ_eq_append_getElem hj, List.append_assoc]
  have : l.getD j 0 = l[j] := by simp [List.getD, hj]
  rw [this]
  rfl
theorem padKey_at (bs : Nat) (key : List UInt8) (j : Nat) (hj : j < bs) : (padKey bs key).getD j 0 = if j < key.length then key.getD j 0 else 0 := by
  unfold padKey
  split
  · rename_i h
    rw [List.getD_eq_getElem?_getD, List.getElem?_append_left (by simp; omega), List.getElem?_take_of_lt hj, List.getD_eq_getElem?_getD]
  · rename_i h
    rw [List.getD_eq_getElem?_getD, List.getElem?_append_right (by simp; omega), List.getElem?_replicate]
    split <;> simp
theorem map_getD (f : UInt8 → UInt8) (l : List UInt8) (j : Nat) (hj : j < l.length) : (l.map f).getD j 0 = f (l.getD j 0) := by simp [List.getD, hj]
end Go.Cv
