/- Walks: a record with a piece of a message is pushed. -/
import Derived.Test.YtadblfnggmaadaaDoorFgE
namespace Go.Proofs.YtadblfnggmaadaaDoor
open Go.RowKit Go.Cv
set_option maxRecDepth 100000
set_option linter.unusedVariables false
/-- A handshake message's header. -/
def hsH (a0 n1 n2 n3 n4 : Nat) : List UInt8 := [UInt8.ofNat a0, UInt8.ofNat (n1 / 65536), UInt8.ofNat (n1 / 256), UInt8.ofNat n1, UInt8.ofNat (n2 / 256), UInt8.ofNat n2, UInt8.ofNat (n3 / 65536), UInt8.ofNat (n3 / 256), UInt8.ofNat n3, UInt8.ofNat (n4 / 65536), UInt8.ofNat (n4 / 256), UInt8.ofNat n4]
theorem three_bytes (n : Nat) (h : n < 16777216) : (n : Int) = (((UInt8.ofNat (n / 65536)).toNat * 65536 + (UInt8.ofNat (n / 256)).toNat * 256 + (UInt8.ofNat n).toNat : Nat) : Int) := by
  simp only [UInt8.toNat_ofNat']
  omega
theorem two_bytes (n : Nat) (h : n < 65536) : (UInt8.ofNat (n / 256)).toNat * 256 + (UInt8.ofNat n).toNat = n := by
  simp only [UInt8.toNat_ofNat']
  omega
theorem head_len (ct ep sq cl : Nat) : (headOf ct 254 253 ep sq cl []).length = 13 := by simp [headOf, be_length]
/-- What the header of a piece reads. -/
theorem hand_piece (g b kd L a ln n c : Nat) (l rec : List UInt8) (hkd : kd < 256) (hL : L ≤ 3000) (ha : a ≤ 3000) (hln : ln ≤ 3000) (hn : 12 + ln = n) (hnc : n ≤ c) (hl : l.length = ln) (w : World) (hk : Blk w g 90 #[.int .u8 0, .int .u32 0, .int .u16 0, .int .u32 0, .int .u32 0]) (hr : Rd w (some ⟨b, 13, none⟩) (vs (hsH kd L 0 a ln ++ l))) (hgb : g ≠ b) :
    Calls Tryd.prog 42 #[.pointer (some ⟨g, 0, none⟩), .slice (some ⟨b, 13, none⟩) n c] w fun e w' =>
      e = .returned .nilIface ∧ Blk w' g 90 #[.int .u8 (kd : Nat), .int .u32 (L : Nat), .int .u16 0, .int .u32 (a : Nat), .int .u32 (ln : Nat)] ∧ w.grownBy w' (some g) := by
  have h := hand_ok g b 13 n c (UInt8.ofNat kd) (UInt8.ofNat (L / 65536)) (UInt8.ofNat (L / 256)) (UInt8.ofNat L) (UInt8.ofNat (0 / 256)) (UInt8.ofNat 0) (UInt8.ofNat (a / 65536)) (UInt8.ofNat (a / 256)) (UInt8.ofNat a) (UInt8.ofNat (ln / 65536)) (UInt8.ofNat (ln / 256)) (UInt8.ofNat ln) (L : Nat) (a : Nat) (ln : Nat) 0 (three_bytes L (by omega)) rfl (three_bytes a (by omega)) (three_bytes ln (by omega)) l _ rfl (by simp; omega) (by omega) (by omega) (by omega) _ _ _ _ _ w hk hr hgb
  have e : (UInt8.ofNat kd).toNat = kd := by rw [UInt8.toNat_ofNat']; omega
  rw [e] at h
  exact h
end Go.Proofs.YtadblfnggmaadaaDoor
