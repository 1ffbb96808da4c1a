/- Walks: the laws' lists of numbers: nums, among, all. -/
import Derived.Test.YtgnkfpfgolhokaaBig
import Derived.Test.YtgnkfpfgolhokaaOps6
import Derived.LoopTactic
namespace Go.Proofs.Ytgnkfpfgolhokaa
open Go.RowKit Go.Cv
set_option maxRecDepth 100000
set_option linter.unusedVariables false
def zv (zs : List Nat) : List Value := zs.map fun (z : Nat) => Value.int .u16 (z : Int)
def flat (k : Nat) (zs : List Nat) : List UInt8 := zs.flatMap (be k)
theorem flat_length (k : Nat) (zs : List Nat) : (flat k zs).length = zs.length * k := by
  induction zs with
  | nil => simp [flat]
  | cons z r ih =>
    have : flat k (z :: r) = be k z ++ flat k r := rfl
    rw [this, List.length_append, be_length, ih, List.length_cons, Nat.succ_mul]
    omega
theorem flat_take (k : Nat) (zs : List Nat) (j : Nat) (hj : j < zs.length) : flat k (zs.take j) ++ be k (zs.getD j 0) = flat k (zs.take (j + 1)) := by
  have h : zs.take (j + 1) = zs.take j ++ [zs.getD j 0] := by
    rw [List.take_succ_eq_append_getElem hj, List.getD_eq_getElem?_getD, List.getElem?_eq_getElem hj]; rfl
  rw [h]; simp [flat]
theorem numCell {w : World} {b o : Nat} {zs : List Nat} (h : Rd w (some ⟨b, o, none⟩) (zv zs)) (j : Nat) (hj : j < zs.length) : w.cell? ⟨b, o + j, none⟩ = some (.int .u16 (zs.getD j 0 : Nat)) := by
  rcases h with h | ⟨b', o', hA, h⟩
  · have : zs.length = 0 := by have := congrArg List.length h; simpa [zv] using this
    omega
  · injection hA with hA
    injection hA with hb ho
    subst hb ho
    refine h j _ ?_
    simp [zv, List.getElem?_eq_getElem hj, List.getD_eq_getElem?_getD]
end Go.Proofs.Ytgnkfpfgolhokaa
