/- Walks: cryptobyte's ReadUint32. -/
import Derived.Test.YtkjpkenhpmjikaaDoorStr
namespace Go.Proofs.YtkjpkenhpmjikaaDoor
open Go.RowKit Go.Cv
set_option maxRecDepth 100000
set_option linter.unusedVariables false
theorem or_shl (i a b : Nat) (h : a < 2 ^ i) : (b * 2 ^ i) ||| a = b * 2 ^ i + a := by
  rw [← Nat.shiftLeft_eq, Nat.shiftLeft_add_eq_or_of_lt h]
theorem or32 (x y z t : Nat) (hx : x < 256) (hy : y < 256) (hz : z < 256) (ht : t < 256) :
    bits BinOp.or IntKind.u32 (bits BinOp.or IntKind.u32 (bits BinOp.or IntKind.u32 ((x : Int) * 16777216) ((y : Int) * 65536)) ((z : Int) * 256)) (t : Int) = ((x * 16777216 + y * 65536 + z * 256 + t : Nat) : Int) := by
  have e1 : ((x : Int) * 16777216) = ((x * 16777216 : Nat) : Int) := by omega
  have e2 : ((y : Int) * 65536) = ((y * 65536 : Nat) : Int) := by omega
  have e3 : ((z : Int) * 256) = ((z * 256 : Nat) : Int) := by omega
  have o1 : x * 16777216 ||| y * 65536 = x * 16777216 + y * 65536 := or_shl 24 (y * 65536) x (by omega)
  have o2 : (x * 16777216 + y * 65536) ||| z * 256 = x * 16777216 + y * 65536 + z * 256 := by
    have := or_shl 16 (z * 256) (x * 256 + y) (by omega)
    rw [show (x * 256 + y) * 2 ^ 16 = x * 16777216 + y * 65536 by omega] at this
    exact this
  have o3 : (x * 16777216 + y * 65536 + z * 256) ||| t = x * 16777216 + y * 65536 + z * 256 + t := by
    have := or_shl 8 t (x * 65536 + y * 256 + z) (by omega)
    rw [show (x * 65536 + y * 256 + z) * 2 ^ 8 = x * 16777216 + y * 65536 + z * 256 by omega] at this
    exact this
  rw [e1, e2, e3, u32_or_nat _ _ (by omega) (by omega), o1, u32_or_nat _ _ (by omega) (by omega), o2, u32_or_nat _ _ (by omega) (by omega), o3]
theorem IntKind.wrap_u32' (n : Int) : IntKind.u32.wrap n = n % 4294967296 := by simp [IntKind.wrap, IntKind.bits, IntKind.signed]
theorem strU32_ok (p b q : Nat) (l r : List UInt8) (x y z t : UInt8) (N : Int) (hl : l = x :: y :: z :: t :: r) (hN : N = ((x.toNat * 16777216 + y.toNat * 65536 + z.toNat * 256 + t.toNat : Nat) : Int)) (v0 : Int) (w : World) (hs : Str w 168 p b l) (hpb : p ≠ b) (hq : Blk w q 30 #[.int .u32 v0]) (hqp : q ≠ p) (hqb : q ≠ b) (hm : (l.length : Int) ≤ 3000000000) :
    Calls Tryd.prog 92 #[.pointer (some ⟨p, 0, none⟩), .pointer (some ⟨q, 0, none⟩)] w fun e w' =>
      e = .returned (.bool true) ∧ Str w' 168 p b r ∧ Blk w' q 30 #[.int .u32 N] ∧ Tch [p, q] w w' := by
  have HC := Lib.hid (strRead_ok p b l 4 w hs hpb (by rw [hl]; simp; omega) hm)
  have hx := x.toNat_lt
  have hy := y.toNat_lt
  have hz := z.toNat_lt
  have ht0 := t.toNat_lt
  have e0 := or32 x.toNat y.toNat z.toNat t.toNat hx hy hz ht0
  rw [← hN] at e0
  have d2 : l.drop 4 = r := by rw [hl]; rfl
  have t2 : l.take 4 = [x, y, z, t] := by rw [hl]; rfl
  rw [d2, t2] at HC
  clear hl d2 t2 hs hm hN
  have w0 : IntKind.u32.wrap (x.toNat : Int) = x.toNat := by clear e0 HC; rw [IntKind.wrap_u32']; omega
  have w1 : IntKind.u32.wrap (y.toNat : Int) = y.toNat := by clear e0 HC; rw [IntKind.wrap_u32']; omega
  have w2 : IntKind.u32.wrap (z.toNat : Int) = z.toNat := by clear e0 HC; rw [IntKind.wrap_u32']; omega
  have w3 : IntKind.u32.wrap (t.toNat : Int) = t.toNat := by clear e0 HC; rw [IntKind.wrap_u32']; omega
  have w4 : IntKind.u32.wrap ((x.toNat : Int) * 16777216) = x.toNat * 16777216 := by clear e0 HC w0 w1 w2 w3; rw [IntKind.wrap_u32']; omega
  have w5 : IntKind.u32.wrap ((y.toNat : Int) * 65536) = y.toNat * 65536 := by clear e0 HC w0 w1 w2 w3 w4; rw [IntKind.wrap_u32']; omega
  have w6 : IntKind.u32.wrap ((z.toNat : Int) * 256) = z.toNat * 256 := by clear e0 HC w0 w1 w2 w3 w4 w5; rw [IntKind.wrap_u32']; omega
  clear hx hy hz ht0
  have hE := eqNil
  go_enter Tryd.func92, Tryd.ntmps92
  go_wp2_with fail
  refine HC.out.mono ?_
  rintro e w1 ⟨o, c, rfl, hc, hr, hs1, ht⟩
  have q0 := hr.byte 0 (by simp)
  have q1 := hr.byte 1 (by simp)
  have q2 := hr.byte 2 (by simp)
  have q3 := hr.byte 3 (by simp)
  have hq1 := hq.tch ht (by simp [hqp])
  clear hq hr
  simp at q0 q1 q2 q3
  have z0 : w1.drew.cell? ⟨b, o, none⟩ = some (.int .u8 x.toNat) := q0
  have z1 : w1.drew.cell? ⟨b, o + 1, none⟩ = some (.int .u8 y.toNat) := q1
  have z2 : w1.drew.cell? ⟨b, o + 2, none⟩ = some (.int .u8 z.toNat) := q2
  have z3 : w1.drew.cell? ⟨b, o + 3, none⟩ = some (.int .u8 t.toNat) := q3
  go_wp2_with fail
  have HS := Lib.hid (hs1.tch (Tch.drew w1) (by simp) (by simp))
  have HQ := Lib.hid hq1.drew
  have HT := Lib.hid (ht.trans ((Tch.drew w1).more (M := [p]) (by simp)))
  clear hs1 hq1 ht q0 q1 q2 q3
  refine wp_region_still_tail 24 (by kernel_rfl) (by kernel_rfl) ?_
  simp only [List.take_succ_cons, List.take_zero, List.drop_succ_cons, List.drop_zero]
  change wpStill _ _ (World.drew w1) (fun a => wpList _ _ _ _ a (World.drew w1)) _ _
  generalize World.drew w1 = wz at *
  repeat still_step
  refine wpStill_nil ?_
  have hq2 := HQ.out
  have c0 := hq2.cell 0
  have g0 := hq2.frozen 0
  simp at c0
  clear hq2
  go_wp2_with fail
  go_ret
  refine ⟨rfl, HS.out.tch (Tch.set _ _ _ _) (by simp; omega) (by simp; omega), ?_, (HT.out.more (M := [p, q]) (by simp)).trans ((Tch.set wz q 0 _).more (by simp))⟩
  simpa using HQ.out.set_ 0 (.int .u32 N)
end Go.Proofs.YtkjpkenhpmjikaaDoor
