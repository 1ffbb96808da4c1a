/- Plain laws: the stand-in of an authenticated cipher. -/
import Derived.Test.YtpedkkmoplbdhaaDoorToy
import Derived.Laws.BitsAllLaws
import Derived.Test.YtpedkkmoplbdhaaDoorElems
namespace Go.Cv
open Go.RowKit
set_option linter.unusedVariables false
def aKeyed (key : List UInt8) (i : Nat) : UInt8 := if key.length = 0 then UInt8.ofNat i else key.getD (i % key.length) 0 + UInt8.ofNat i
def aStream (key nonce : List UInt8) (i : Nat) : UInt8 :=
  if nonce.length = 0 then aKeyed key i + UInt8.ofNat (11 * i) else aKeyed key i + UInt8.ofNat (11 * i) + nonce.getD (i % nonce.length) 0 * 3
/-- The first j bytes, hidden. -/
def aHide (key nonce p : List UInt8) (j : Nat) : List UInt8 := (List.range j).map fun i => p.getD i 0 ^^^ aStream key nonce i
theorem aHide_zero (key nonce p : List UInt8) : aHide key nonce p 0 = [] := rfl
theorem aHide_length (key nonce p : List UInt8) (j : Nat) : (aHide key nonce p j).length = j := by simp [aHide]
theorem aHide_succ (key nonce p : List UInt8) (j : Nat) : aHide key nonce p (j + 1) = aHide key nonce p j ++ [p.getD j 0 ^^^ aStream key nonce j] := by
  simp [aHide, List.range_succ]
def aMarkText (key nonce plain ad : List UInt8) : List UInt8 := toySum 39 key ++ toySum 39 nonce ++ toySum 39 ad ++ plain
def aMark (key nonce plain ad : List UInt8) (tag : Nat) : List UInt8 := (toySum 39 (aMarkText key nonce plain ad)).take tag
theorem size39 : toySize 39 = 32 := rfl
theorem aMark_length (key nonce plain ad : List UInt8) (tag : Nat) (h : tag ≤ 32) : (aMark key nonce plain ad tag).length = tag := by
  rw [aMark, List.length_take, toySum_length, size39]; omega
def aSeal (key nonce plain ad : List UInt8) (tag : Nat) : List UInt8 := aHide key nonce plain plain.length ++ aMark key nonce plain ad tag
theorem aSeal_length (key nonce plain ad : List UInt8) (tag : Nat) (h : tag ≤ 32) : (aSeal key nonce plain ad tag).length = plain.length + tag := by
  rw [aSeal, List.length_append, aHide_length, aMark_length _ _ _ _ _ h]
theorem u8a (x y : UInt8) : IntKind.u8.wrap ((x.toNat : Int) + (y.toNat : Int)) = ((x + y).toNat : Int) := by
  rw [IntKind.wrap_u8, UInt8.toNat_add]; omega
theorem u8m3 (x : UInt8) : IntKind.u8.wrap ((x.toNat : Int) * 3) = ((x * 3).toNat : Int) := by
  rw [IntKind.wrap_u8, UInt8.toNat_mul]; have : (3 : UInt8).toNat = 3 := rfl; rw [this]; omega
theorem u8x (x y : UInt8) : bits .xor .u8 (x.toNat : Int) (y.toNat : Int) = ((x ^^^ y).toNat : Int) := by
  have h := u8_xor_nat x.toNat y.toNat x.toNat_lt y.toNat_lt
  rw [UInt8.toNat_xor]
  exact h
theorem u8o (i : Nat) : IntKind.u8.wrap (i : Int) = ((UInt8.ofNat i).toNat : Int) := by
  rw [IntKind.wrap_u8, UInt8.toNat_ofNat']; omega
theorem w64_11 (i : Nat) (hi : i ≤ 1000000) : wrap64 (11 * (i : Int)) = ((11 * i : Nat) : Int) := by unfold wrap64; omega
theorem i64_11 (i : Nat) (hi : i ≤ 1000000) : IntKind.i64.wrap (11 * (i : Int)) = ((11 * i : Nat) : Int) := by rw [IntKind.wrap_i64]; omega
theorem below_tchA {B : Nat} {w0 w w' : World} {L : List Nat} (h : Below B w0 w) (ht : Tch L w w') (hL : ∀ k ∈ L, B ≤ k) (hB : B ≤ w.heap.size) : Below B w0 w' :=
  h.trans ⟨ht.os, ht.tape, ht.output, ht.size, fun k hk => ht.block k (by omega) (fun hm => by have := hL k hm; omega)⟩
end Go.Cv
