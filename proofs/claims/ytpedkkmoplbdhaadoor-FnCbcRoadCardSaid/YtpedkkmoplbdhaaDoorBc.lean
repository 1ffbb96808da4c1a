/- Plain laws: the stand-in of a block cipher and the chain of its blocks. -/
import Derived.Test.YtpedkkmoplbdhaaDoorCh
namespace Go.Proofs.YtpedkkmoplbdhaaDoor
open Go.RowKit Go.Cv
set_option maxRecDepth 100000
set_option linter.unusedVariables false
/-- The block while it is made. -/
def encJ (key b : List UInt8) : Nat → List UInt8
  | 0 => List.replicate 16 0
  | j + 1 => (encJ key b j).set ((j * 5 + 3) % 16) (b.getD j 0 * 7 + aKeyed key j)
def tEnc (key b : List UInt8) : List UInt8 := encJ key b 16
theorem encJ_length (key b : List UInt8) (j : Nat) : (encJ key b j).length = 16 := by
  induction j with
  | zero => simp [encJ]
  | succ j ih => rw [encJ, List.length_set, ih]
theorem tEnc_length (key b : List UInt8) : (tEnc key b).length = 16 := encJ_length key b 16
theorem encJ_get (key b : List UInt8) (j : Nat) (hj : j ≤ 16) (i : Nat) (hi : i < j) : (encJ key b j).getD ((i * 5 + 3) % 16) 0 = b.getD i 0 * 7 + aKeyed key i := by
  induction j with
  | zero => omega
  | succ j ih =>
    rw [encJ, List.getD_eq_getElem?_getD, List.getElem?_set]
    by_cases h : i = j
    · subst h
      rw [if_pos rfl, if_pos (by rw [encJ_length]; omega)]
      rfl
    · rw [if_neg (by omega), ← List.getD_eq_getElem?_getD]
      exact ih (by omega) (by omega)
/-- The way back, while it is made. -/
def decByte (key b : List UInt8) (i : Nat) : UInt8 := (b.getD ((i * 5 + 3) % 16) 0 - aKeyed key i) * 183
def decPart (key b : List UInt8) (j : Nat) : List UInt8 := (List.range j).map (decByte key b) ++ List.replicate (16 - j) 0
def tDec (key b : List UInt8) : List UInt8 := (List.range 16).map (decByte key b)
theorem decPart_zero (key b : List UInt8) : decPart key b 0 = List.replicate 16 0 := by simp [decPart]
theorem decPart_all (key b : List UInt8) : decPart key b 16 = tDec key b := by simp [decPart, tDec]
theorem tDec_length (key b : List UInt8) : (tDec key b).length = 16 := by simp [tDec]
theorem decPart_length (key b : List UInt8) (j : Nat) (hj : j ≤ 16) : (decPart key b j).length = 16 := by simp [decPart]; omega
theorem decPart_step (key b : List UInt8) (j : Nat) (h : j < 16) : (decPart key b j).set j (decByte key b j) = decPart key b (j + 1) := by
  obtain ⟨d, hd⟩ : ∃ d, 16 - j = d + 1 := ⟨16 - j - 1, by omega⟩
  have hd2 : 16 - (j + 1) = d := by omega
  unfold decPart
  rw [List.set_append_right _ _ (by simp), List.length_map, List.length_range, Nat.sub_self, hd, hd2, List.replicate_succ, List.set_cons_zero, List.range_succ, List.map_append, List.append_assoc]
  rfl
theorem byte_back (x k : UInt8) : (x * 7 + k - k) * 183 = x := by
  rw [UInt8.add_sub_cancel, UInt8.mul_assoc, show (7 : UInt8) * 183 = 1 by decide, UInt8.mul_one]
theorem tDec_tEnc (key b : List UInt8) (h : b.length = 16) : tDec key (tEnc key b) = b := by
  apply List.ext_getElem
  · rw [tDec_length, h]
  · intro i h1 h2
    rw [tDec_length] at h1
    have e : (tDec key (tEnc key b))[i]'(by rw [tDec_length]; exact h1) = decByte key (tEnc key b) i := by simp [tDec]
    rw [e, decByte, tEnc, encJ_get key b 16 (Nat.le_refl _) i h1, byte_back]
    simp [List.getD, h2]
/-- n blocks of a chain. -/
def cHid (key : List UInt8) : Nat → List UInt8 → List UInt8 → List UInt8
  | 0, _, _ => []
  | n + 1, iv, s => tEnc key (xorL iv (s.take 16) 16) ++ cHid key n (tEnc key (xorL iv (s.take 16) 16)) (s.drop 16)
def cSho (key : List UInt8) : Nat → List UInt8 → List UInt8 → List UInt8
  | 0, _, _ => []
  | n + 1, iv, s => xorL (tDec key (s.take 16)) iv 16 ++ cSho key n (s.take 16) (s.drop 16)
theorem cHid_length (key : List UInt8) (n : Nat) (iv s : List UInt8) : (cHid key n iv s).length = 16 * n := by
  induction n generalizing iv s with
  | zero => rfl
  | succ n ih => rw [cHid, List.length_append, tEnc_length, ih]; omega
theorem cSho_length (key : List UInt8) (n : Nat) (iv s : List UInt8) : (cSho key n iv s).length = 16 * n := by
  induction n generalizing iv s with
  | zero => rfl
  | succ n ih => rw [cSho, List.length_append, xorL_length, ih]; omega
theorem xorL_back (a b : List UInt8) (ha : a.length = 16) (hb : b.length = 16) : xorL (xorL a b 16) a 16 = b := by
  apply List.ext_getElem
  · rw [xorL_length, hb]
  · intro i h1 h2
    rw [xorL_length] at h1
    have e : (xorL (xorL a b 16) a 16)[i]'(by rw [xorL_length]; exact h1) = (xorL a b 16).getD i 0 ^^^ a.getD i 0 := by simp [xorL]
    have e2 : (xorL a b 16).getD i 0 = a.getD i 0 ^^^ b.getD i 0 := by simp [xorL, h1]
    rw [e, e2, UInt8.xor_comm (a.getD i 0), UInt8.xor_assoc, UInt8.xor_self, UInt8.xor_zero]
    simp [List.getD, h2]
theorem cSho_cHid (key : List UInt8) (n : Nat) (iv s : List UInt8) (hiv : iv.length = 16) (hs : s.length = 16 * n) : cSho key n iv (cHid key n iv s) = s := by
  induction n generalizing iv s with
  | zero => exact (List.eq_nil_of_length_eq_zero (by omega)).symm
  | succ n ih =>
    have h16 : (s.take 16).length = 16 := by rw [List.length_take]; omega
    rw [cHid, cSho, List.take_left' (tEnc_length _ _), List.drop_left' (tEnc_length _ _), ih _ _ (tEnc_length _ _) (by rw [List.length_drop]; omega), tDec_tEnc key _ (xorL_length _ _ _), xorL_back iv _ hiv h16, List.take_append_drop]
end Go.Proofs.YtpedkkmoplbdhaaDoor
