/- Walks: a handshake header, read. -/
import Derived.Test.YtkjpkenhpmjikaaDoorU24
import Derived.Deep.RegionWith
namespace Go.Proofs.YtkjpkenhpmjikaaDoor
open Go.RowKit Go.Cv
set_option maxRecDepth 100000
set_option linter.unusedVariables false
theorem Rd.part {w : World} {b o : Nat} {l : List UInt8} (h : Rd w (some ⟨b, o, none⟩) (vs l)) (k m : Nat) : Rd w (some ⟨b, o + k, none⟩) (vs ((l.drop k).take m)) := by
  rw [vs_take, vs_drop]
  exact (show Rd w (some ⟨b, o + k, none⟩) _ from by simpa [add_lit] using h.drop k).take m
set_option maxHeartbeats 1000000 in
theorem hand_ok (g b n c : Nat) (b0 b1 b2 b3 b4 b5 b6 b7 b8 b9 b10 b11 : UInt8) (N1 N3 N4 : Int) (N2 : Nat) (hN1 : N1 = ((b1.toNat * 65536 + b2.toNat * 256 + b3.toNat : Nat) : Int)) (hN2 : b4.toNat * 256 + b5.toNat = N2) (hN3 : N3 = ((b6.toNat * 65536 + b7.toNat * 256 + b8.toNat : Nat) : Int)) (hN4 : N4 = ((b9.toNat * 65536 + b10.toNat * 256 + b11.toNat : Nat) : Int))
    (r : List UInt8) (l : List UInt8) (hl : l = b0 :: b1 :: b2 :: b3 :: b4 :: b5 :: b6 :: b7 :: b8 :: b9 :: b10 :: b11 :: r) (hn : n = l.length) (hnn : (12 : Int) ≤ n) (hmm : (n : Int) ≤ 3000000000) (hnc : (n : Int) ≤ c) (x0 x1 x2 x3 x4 : Value) (w : World)
    (hk : Blk w g 150 #[x0, x1, x2, x3, x4]) (hr : Rd w (some ⟨b, 0, none⟩) (vs l)) (hgb : g ≠ b) :
    Calls Tryd.prog 77 #[.pointer (some ⟨g, 0, none⟩), .slice (some ⟨b, 0, none⟩) n c] w fun e w' =>
      e = .returned .nilIface ∧ Blk w' g 150 #[.int .u8 b0.toNat, .int .u32 N1, .int .u16 N2, .int .u32 N3, .int .u32 N4] ∧ w.grownBy w' (some g) := by
  have hgs := hk.lt
  have h0 := hr.byte 0 (by rw [hl]; simp)
  rw [hl] at h0
  have hbs := block_lt h0
  have k0 := hk.cell 0
  have f0 := hk.frozen 0
  simp at h0 k0 hbs
  have i0 : (0 : Int) < n := by omega
  have i1 : (1 : Int) ≤ n := by omega
  have i4 : (4 : Int) ≤ n := by omega
  have i6 : (6 : Int) ≤ n := by omega
  have i9 : (9 : Int) ≤ n := by omega
  have e1 : ¬ c = 1 := by omega
  have e4 : ¬ c = 4 := by omega
  have e6 : ¬ c = 6 := by omega
  have e9 : ¬ c = 9 := by omega
  have i12 : ¬ ((n : Int) < 12) := by omega
  have R1 : Rd w (some ⟨b, 1, none⟩) (vs [b1, b2, b3]) := by have := Rd.part hr 1 3; rw [hl] at this; simpa using this
  have R4 : Rd w (some ⟨b, 4, none⟩) (vs [b4, b5]) := by have := Rd.part hr 4 2; rw [hl] at this; simpa using this
  have R6 : Rd w (some ⟨b, 6, none⟩) (vs [b6, b7, b8]) := by have := Rd.part hr 6 3; rw [hl] at this; simpa using this
  have R9 : Rd w (some ⟨b, 9, none⟩) (vs [b9, b10, b11]) := by have := Rd.part hr 9 3; rw [hl] at this; simpa using this
  have G1 := Lib.hid (fun w h => u24_get (some ⟨b, 1, none⟩) (n - 1) (c - 1) b1 b2 b3 N1 hN1 (by omega) w h)
  have G2 := Lib.hid (fun w h0 h1 => u16_any b 4 (n - 4) (c - 4) b4.toNat b5.toNat (by have := b4.toNat_lt; omega) (by have := b5.toNat_lt; omega) (by omega) w h0 h1)
  rw [hN2] at G2
  have G3 := Lib.hid (fun w h => u24_get (some ⟨b, 6, none⟩) (n - 6) (c - 6) b6 b7 b8 N3 hN3 (by omega) w h)
  have G4 := Lib.hid (fun w h => u24_get (some ⟨b, 9, none⟩) (n - 9) (c - 9) b9 b10 b11 N4 hN4 (by omega) w h)
  have HK := Lib.hid hk
  have HR1 := Lib.hid R1
  have HR4 := Lib.hid R4
  have HR6 := Lib.hid R6
  have HR9 := Lib.hid R9
  clear hl hn hN1 hN2 hN3 hN4 hk hr R1 R4 R6 R9
  go_enter Tryd.func77, Tryd.ntmps77
  go_wp2_with fail
  have T0 := Tch.set w g 0 (.int .u8 b0.toNat)
  refine (G1.out _ (HR1.out.tch T0 (by simp; omega))).mono ?_
  rintro e w1 ⟨rfl, hb1⟩
  have T1 := T0.then (Tch.below hb1 []) (by simp)
  have hk1 := (HK.out.set_ 0 (.int .u8 b0.toNat)).keep hb1
  have c1 := hk1.cell 1
  have f1 := hk1.frozen 1
  simp at c1
  have L1 := T1.size
  clear hb1 T0 k0 f0 h0
  go_wp2_with fail
  have T2 := T1.trans (Tch.set w1 g 1 (.int .u32 N1))
  have hk2 := hk1.set_ 1 (.int .u32 N1)
  simp at hk2
  clear T1 hk1 c1 f1
  generalize hW : w1.setCell ⟨g, 1, none⟩ (.int .u32 N1) = w2 at *
  clear hW
  have T2d := T2.then (Tch.drew w2) (by simp)
  have q4 : w2.drew.cell? ⟨b, 4, none⟩ = some (.int .u8 b4.toNat) := by
    have := (HR4.out.tch T2d (by simp; omega)).byte 0 (by simp)
    simpa using this
  have q5 : w2.drew.cell? ⟨b, 5, none⟩ = some (.int .u8 b5.toNat) := by
    have := (HR4.out.tch T2d (by simp; omega)).byte 1 (by simp)
    simpa using this
  have HK2 : Hid (Blk w2.drew g 150 #[.int .u8 b0.toNat, .int .u32 N1, x2, x3, x4]) := hk2
  have HQ4 := Lib.hid q4
  have HQ5 := Lib.hid q5
  have HT2 := Lib.hid T2d
  clear q4 q5 T2 hk2 T2d
  first
    | (go_region_with (first
        | (go_at_call 82; refine (G2.out _ HQ4.out HQ5.out).mono ?_; rintro e w3 ⟨rfl, hb3⟩; have hk3 := HK2.out.keep hb3; have c3 := hk3.cell 2; have f3 := hk3.frozen 2; simp at c3; replace hk3 := Lib.hid hk3)))
    | fail "no"
  all_goals
    have T3 := (HT2.out.then (Tch.below hb3 []) (by simp)).trans (Tch.set w3 g 2 (.int .u16 N2))
    have hk4 := hk3.out.set_ 2 (.int .u16 N2)
    simp at hk4
    clear HK2 HQ4 HQ5 HT2 hb3 hk3 c3 f3
    generalize hW : w3.setCell ⟨g, 2, none⟩ (.int .u16 N2) = w4 at *
    clear hW
    have HR6' := Lib.hid (HR6.out.tch T3 (by simp; omega))
    have HR9' := Lib.hid (HR9.out.tch T3 (by simp; omega))
    have HT3 := Lib.hid T3
    have HK4 := Lib.hid hk4
    clear hk4 T3
    go_wp2_with fail
    refine (G3.out _ HR6'.out).mono ?_
    rintro e w5 ⟨rfl, hb5⟩
    have hk5 := HK4.out.keep hb5
    have c5 := hk5.cell 3
    have f5 := hk5.frozen 3
    simp at c5
    have HK5 := Lib.hid hk5
    have HR9'' := Lib.hid (HR9'.out.keep hb5)
    have HT5 := Lib.hid (HT3.out.then (Tch.below hb5 []) (by simp))
    clear hk5 hb5 HK4 HR6' HR9' HT3
    go_wp2_with fail
    have T6 := Tch.set w5 g 3 (.int .u32 N3)
    refine (G4.out _ (HR9''.out.tch T6 (by simp; omega))).mono ?_
    rintro e w7 ⟨rfl, hb7⟩
    have hk7 := (HK5.out.set_ 3 (.int .u32 N3)).keep hb7
    have c7 := hk7.cell 4
    have f7 := hk7.frozen 4
    simp at c7 hk7
    have HK7 := Lib.hid hk7
    have HT7 := Lib.hid ((HT5.out.trans T6).then (Tch.below hb7 []) (by simp))
    clear hk7 hb7 T6 HK5 HR9'' HT5 c5 f5
    go_wp2_with fail
    go_ret
    exact ⟨rfl, by simpa using HK7.out.set_ 4 (.int .u32 N4), (HT7.out.trans (Tch.set w7 g 4 (.int .u32 N4))).toGrown⟩
end Go.Proofs.YtkjpkenhpmjikaaDoor
