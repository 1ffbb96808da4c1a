/- Walks: choices in constant time; the chain's reader. -/
import Derived.Test.YtpedkkmoplbdhaaDoorBu
import Derived.Outline
import Derived.BigQuiet
namespace Go.Proofs.YtpedkkmoplbdhaaDoor
open Go.RowKit Go.Cv
set_option maxRecDepth 100000
set_option linter.unusedVariables false
def b2u : Array Value → Sem Value := fun
  | #[.bool b] => pure (.int .u8 (if b then 1 else 0))
  | _ => stuck "boolToUint8: a bool expected"
theorem x_b2u (b : Bool) (w : World) : (callFunc 104 #[.bool b]).run Tryd.prog w = .ok (.value (.int .u8 (if b then 1 else 0))) w := by
  rw [@run_callFunc_extern Tryd.prog 104 _ b2u Tryd.func104 (by kernel_rfl) (by kernel_rfl) (by kernel_rfl) (by kernel_rfl)]
  rfl
theorem and_m1 (x : Nat) (h : x < 4294967296) : bits .and .i64 (-1) (x : Int) = (x : Int) := by
  show IntKind.i64.wrap ((BitVec.ofInt 64 (-1) &&& BitVec.ofInt 64 (x : Int)).toNat : Int) = _
  rw [show BitVec.ofInt 64 (-1) = BitVec.allOnes 64 by decide, BitVec.allOnes_and, BitVec.ofInt_natCast, BitVec.toNat_ofNat, Nat.mod_eq_of_lt (by omega)]
  exact i64_nat x h
theorem or_zero (x : Nat) (h : x < 4294967296) : bits .or .i64 (x : Int) 0 = (x : Int) := by
  show IntKind.i64.wrap ((BitVec.ofInt 64 (x : Int) ||| BitVec.ofInt 64 0).toNat : Int) = _
  rw [show BitVec.ofInt 64 0 = 0#64 by decide, BitVec.or_zero, BitVec.ofInt_natCast, BitVec.toNat_ofNat, Nat.mod_eq_of_lt (by omega)]
  exact i64_nat x h
theorem ct_le0 (x y : Int) (h : decide (x ≤ y) = true) (h' : x ≤ y) (w : World) : Calls Tryd.prog 96 #[.int .i64 x, .int .i64 y] w fun e w' => e = .returned (.int .i64 1) ∧ w = w' := by
  have hb := x_b2u true
  go_enter Tryd.func96, Tryd.ntmps96
  go_wp2_with fail
  go_ret
  exact ⟨rfl, rfl⟩
theorem ct_le (x y : Int) (h : decide (x ≤ y) = true) (h' : x ≤ y) (w : World) : Calls Tryd.prog 74 #[.int .i64 x, .int .i64 y] w fun e w' => e = .returned (.int .i64 1) ∧ w = w' := by
  go_enter Tryd.func74, Tryd.ntmps74
  go_wp2_with fail
  refine (ct_le0 x y h h' w).mono ?_
  rintro e w1 ⟨rfl, rfl⟩
  go_wp2_with fail
  go_ret
  exact ⟨rfl, rfl⟩
theorem ct_sel0 (x : Nat) (hx : x < 4294967296) (w : World) : Calls Tryd.prog 97 #[.int .i64 1, .int .i64 (x : Nat), .int .i64 1] w fun e w' => e = .returned (.int .i64 (x : Nat)) ∧ w = w' := by
  have hb := x_b2u true
  have a1 := and_m1 x hx
  have a2 := or_zero x hx
  have a0 : bits .xor .i64 (-1) 0 = -1 := by kernel_rfl
  have a3 : bits .and .i64 0 1 = 0 := by kernel_rfl
  clear hx
  go_enter Tryd.func97, Tryd.ntmps97
  go_wp2_with fail
  go_ret
  exact ⟨by first | rfl | (rw [a0, a3, a1, a2]; done) | (rw [a0, a3, a1, a2]; rfl), rfl⟩
theorem ct_sel (x : Nat) (hx : x < 4294967296) (w : World) : Calls Tryd.prog 75 #[.int .i64 1, .int .i64 (x : Nat), .int .i64 1] w fun e w' => e = .returned (.int .i64 (x : Nat)) ∧ w = w' := by
  go_enter Tryd.func75, Tryd.ntmps75
  go_wp2_with fail
  refine (ct_sel0 x hx w).mono ?_
  rintro e w1 ⟨rfl, rfl⟩
  go_wp2_with fail
  go_ret
  exact ⟨rfl, rfl⟩
theorem ct_beq (w : World) : Calls Tryd.prog 107 #[.int .u8 0, .int .u8 0] w fun e w' => e = .returned (.int .i64 1) ∧ w = w' := by
  have hb := x_b2u true
  go_enter Tryd.func107, Tryd.ntmps107
  go_wp2_with fail
  go_ret
  exact ⟨rfl, rfl⟩
theorem u8_self (x : UInt8) : bits .xor .u8 (x.toNat : Int) (x.toNat : Int) = 0 := by
  rw [u8x, UInt8.xor_self]; rfl
set_option maxHeartbeats 1000000 in
/-- Two rows of the same bytes. -/
theorem ct_cmp0 (l : List UInt8) (n : Nat) (hl : l.length = n) (hn : n ≤ 100000) (b1 o1 c1 b2 o2 c2 : Nat) (w : World) (h1 : Rd w (some ⟨b1, o1, none⟩) (vs l)) (h2 : Rd w (some ⟨b2, o2, none⟩) (vs l)) :
    Calls Tryd.prog 102 #[.slice (some ⟨b1, o1, none⟩) n c1, .slice (some ⟨b2, o2, none⟩) n c2] w fun e w' => e = .returned (.int .i64 1) ∧ Below w.heap.size w w' := by
  have HL := Lib.hid hl
  have HN := Lib.hid hn
  have H1 := Lib.hid h1
  have H2 := Lib.hid h2
  have n64 : n ≤ 4294967296 := by omega
  clear hl hn h1 h2
  go_enter Tryd.func102, Tryd.ntmps102
  go_wp2_with fail
  go_loopw [5, 6] (fun v i wr => ∃ j : Nat, j ≤ n ∧ v = .int .u8 0 ∧ i = .int .i64 j ∧ Hid (Below w.heap.size w wr)) (fun _ i _ => n - (intOf i).toNat)
  case atStart => exact ⟨0, Nat.zero_le _, rfl, rfl, Lib.hid (Below.refl _ _)⟩
  case round =>
    obtain ⟨j, hj, rfl, rfl, HJ⟩ := hrel
    by_cases hlt : j < n
    · have x1 : wr.cell? ⟨b1, o1 + j, none⟩ = some (.int .u8 (l.getD j 0).toNat) := (H1.out.keep HJ.out).byte j (by rw [HL.out]; exact hlt)
      have x2 : wr.cell? ⟨b2, o2 + j, none⟩ = some (.int .u8 (l.getD j 0).toNat) := (H2.out.keep HJ.out).byte j (by rw [HL.out]; exact hlt)
      have e1 := u8_self (l.getD j 0)
      obtain ⟨x, hx⟩ : ∃ x, l.getD j 0 = x := ⟨_, rfl⟩
      rw [hx] at x1 x2 e1
      have k7 : (j : Int) < n := by omega
      have jw := w64_inc hlt n64
      clear hx
      go_wp2_with fail
      go_quiet (fail)
      have HZ := Lib.hid (below_drewN HJ.out nq)
      clear x1 x2
      generalize wr.drewN nq = w9 at *
      go_wp2_with fail
      go_roundw
      case rel => exact ⟨j + 1, hlt, by first | rfl | simp [e1], by first | (rw [jw]; go_num) | go_num, HZ⟩
      case measure => first | exact t_meas hlt | (rw [jw]; exact t_meas hlt)
    · obtain rfl : n = j := by omega
      have HF := Lib.hid HJ.out
      clear HJ hlt hj
      go_wp2_with fail
      refine (ct_beq wr).mono ?_
      rintro e w1 ⟨rfl, rfl⟩
      go_wp2_with fail
      go_ret
      exact ⟨rfl, HF.out⟩
theorem ct_cmp (l : List UInt8) (n : Nat) (hl : l.length = n) (hn : n ≤ 100000) (b1 o1 c1 b2 o2 c2 : Nat) (w : World) (h1 : Rd w (some ⟨b1, o1, none⟩) (vs l)) (h2 : Rd w (some ⟨b2, o2, none⟩) (vs l)) :
    Calls Tryd.prog 78 #[.slice (some ⟨b1, o1, none⟩) n c1, .slice (some ⟨b2, o2, none⟩) n c2] w fun e w' => e = .returned (.int .i64 1) ∧ Below w.heap.size w w' := by
  have HC := Lib.hid (ct_cmp0 l n hl hn b1 o1 c1 b2 o2 c2 w h1 h2)
  clear hl hn h1 h2
  go_enter Tryd.func78, Tryd.ntmps78
  go_wp2_with fail
  refine HC.out.mono ?_
  rintro e w1 ⟨rfl, hb⟩
  have HB := Lib.hid hb
  clear hb
  go_wp2_with fail
  go_ret
  exact ⟨rfl, HB.out⟩
end Go.Proofs.YtpedkkmoplbdhaaDoor
