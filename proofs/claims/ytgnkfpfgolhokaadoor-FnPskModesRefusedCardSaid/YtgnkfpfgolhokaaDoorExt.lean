/- The laws' extensions: what a whole one holds, what a cut one lacks. -/
import Derived.Test.YtgnkfpfgolhokaaDoorCid
namespace Go.Proofs.YtgnkfpfgolhokaaDoor
open Go.RowKit Go.Cv
set_option linter.unusedVariables false
def extMsg (t : Int) (s : List UInt8) : Array Value := #[.int .u16 t, .string (S s), .slice none 0 0, .slice none 0 0, .slice none 0 0, .bool false, .int .u32 0, .bool false, .slice none 0 0, .slice none 0 0, .slice none 0 0, .slice none 0 0, .slice none 0 0]
def zeroExt : Array Value := #[.int .u16 0, .string (S []), .slice none 0 0, .slice none 0 0, .slice none 0 0, .bool false, .int .u32 0, .bool false, .slice none 0 0, .slice none 0 0, .slice none 0 0, .slice none 0 0, .slice none 0 0]
theorem be2_parts (n : Nat) (h : n < 65536) : ∃ x y : UInt8, be 2 n = [x, y] ∧ x.toNat * 256 + y.toNat = n :=
  ⟨UInt8.ofNat (n / 256), UInt8.ofNat n, by simp [be], by simp; omega⟩
theorem be1_part (n : Nat) (h : n < 256) : ∃ x : UInt8, be 1 n = [x] ∧ n = x.toNat := ⟨UInt8.ofNat n, by simp [be], by simp; omega⟩
theorem cut_short (a b x y : UInt8) (s : List UInt8) (hn : x.toNat * 256 + y.toNat = s.length) (j : Nat) (hj : j < s.length + 4) :
    ((a :: b :: x :: y :: s).take j).length < 2 ∨ ∃ r, (a :: b :: x :: y :: s).take j = a :: b :: r ∧ Short2 r := by
  match j, hj with
  | 0, _ => exact .inl (by simp)
  | 1, _ => exact .inl (by simp)
  | 2, _ => exact .inr ⟨[], rfl, .inl (by simp)⟩
  | 3, _ => exact .inr ⟨[x], rfl, .inl (by simp)⟩
  | i + 4, hj => exact .inr ⟨x :: y :: s.take i, rfl, .inr ⟨x, y, s.take i, rfl, by rw [hn]; simp; omega⟩⟩
end Go.Proofs.YtgnkfpfgolhokaaDoor
