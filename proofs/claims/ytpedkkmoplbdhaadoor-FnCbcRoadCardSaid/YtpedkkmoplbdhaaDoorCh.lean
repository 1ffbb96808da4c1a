/- Plain laws: the nonce of a record that is sealed. -/
import Derived.Test.YtpedkkmoplbdhaaDoorBase
import Derived.Test.YtpedkkmoplbdhaaDoorBig
namespace Go.Proofs.YtpedkkmoplbdhaaDoor
open Go.RowKit Go.Cv
set_option maxRecDepth 100000
set_option linter.unusedVariables false
theorem seq_and (sq : Nat) (h : sq < 281474976710656) : bits .and .u64 (sq : Int) 281474976710655 = (sq : Int) := by
  have h1 := u64_and_nat sq 281474976710655 (by omega) (by omega)
  have h2 : sq &&& 281474976710655 = sq % 281474976710656 := Nat.and_two_pow_sub_one_eq_mod sq 48
  rw [h2, Nat.mod_eq_of_lt h] at h1
  exact h1
theorem seq_or (ep sq : Nat) (hep : ep < 65536) (h : sq < 281474976710656) : bits .or .u64 ((ep : Int) * 281474976710656) (sq : Int) = ((ep * 281474976710656 + sq : Nat) : Int) := by
  have h1 := u64_or_nat (ep * 281474976710656) sq (by omega) (by omega)
  rw [nat_join 48 (ep * 281474976710656) sq (by omega) (by omega)] at h1
  have h2 : ((ep * 281474976710656 : Nat) : Int) = (ep : Int) * 281474976710656 := by omega
  rw [h2] at h1
  exact h1
theorem be8_two (ep sq : Nat) (hep : ep < 65536) (h : sq < 281474976710656) : be 8 (ep * 281474976710656 + sq) = be 2 ep ++ be 6 sq := by
  have e (a b : Nat) (hab : a % 256 = b % 256) : UInt8.ofNat a = UInt8.ofNat b := by
    apply UInt8.toNat_inj.1; rw [UInt8.toNat_ofNat', UInt8.toNat_ofNat']; exact hab
  simp only [be, List.cons_append, List.nil_append]
  refine congr (congrArg _ (e _ _ (by omega))) ?_
  refine congr (congrArg _ (e _ _ (by omega))) ?_
  refine congr (congrArg _ (e _ _ (by omega))) ?_
  refine congr (congrArg _ (e _ _ (by omega))) ?_
  refine congr (congrArg _ (e _ _ (by omega))) ?_
  refine congr (congrArg _ (e _ _ (by omega))) ?_
  refine congr (congrArg _ (e _ _ (by omega))) ?_
  refine congr (congrArg _ (e _ _ (by omega))) rfl
def xorL (a b : List UInt8) (j : Nat) : List UInt8 := (List.range j).map fun i => a.getD i 0 ^^^ b.getD i 0
theorem xorL_length (a b : List UInt8) (j : Nat) : (xorL a b j).length = j := by simp [xorL]
theorem xorL_succ (a b : List UInt8) (j : Nat) : xorL a b (j + 1) = xorL a b j ++ [a.getD j 0 ^^^ b.getD j 0] := by simp [xorL, List.range_succ]
/-- The nonce, its first j bytes behind the fourth turned. -/
def chN (iv s : List UInt8) : Nat → List UInt8
  | 0 => iv
  | j + 1 => (chN iv s j).set (4 + j) ((chN iv s j).getD (4 + j) 0 ^^^ s.getD j 0)
theorem chN_length (iv s : List UInt8) (j : Nat) : (chN iv s j).length = iv.length := by
  induction j with
  | zero => rfl
  | succ j ih => rw [chN, List.length_set, ih]
theorem chN_all (iv s : List UInt8) (h1 : iv.length = 12) (h2 : s.length = 8) : chN iv s 8 = xorL iv ([0, 0, 0, 0] ++ s) 12 := by
  match iv, h1 with
  | [a0, a1, a2, a3, a4, a5, a6, a7, a8, a9, a10, a11], _ =>
    match s, h2 with
    | [b0, b1, b2, b3, b4, b5, b6, b7], _ =>
      simp [chN, xorL, List.range, List.range.loop]
theorem be_at (Q j : Nat) (hj : j < 8) : (be 8 Q).getD j 0 = UInt8.ofNat (Q / 2 ^ (56 - 8 * j)) := by
  rcases (by omega : j = 0 ∨ j = 1 ∨ j = 2 ∨ j = 3 ∨ j = 4 ∨ j = 5 ∨ j = 6 ∨ j = 7) with rfl | rfl | rfl | rfl | rfl | rfl | rfl | rfl <;> simp [be]
end Go.Proofs.YtpedkkmoplbdhaaDoor
