/- Walks: the padding of a text is examined. -/
import Derived.Test.YtpedkkmoplbdhaaDoorBv
import Derived.Deep.DeepCutAuto
namespace Go.Proofs.YtpedkkmoplbdhaaDoor
open Go.RowKit Go.Cv
set_option maxRecDepth 100000
set_option linter.unusedVariables false
theorem xor_max (d : Nat) (h : d < 18446744073709551616) : bits .xor .u64 IntKind.u64.max (d : Int) = ((18446744073709551615 - d : Nat) : Int) := by
  have h1 := bits_xor_u64_nat 18446744073709551615 d (by omega) h
  have h2 : (18446744073709551615 ^^^ d : Nat) = 18446744073709551615 - d := by
    have hb : (BitVec.ofNat 64 18446744073709551615 ^^^ BitVec.ofNat 64 d).toNat = 18446744073709551615 - d := by
      rw [show BitVec.ofNat 64 18446744073709551615 = BitVec.allOnes 64 by decide, BitVec.allOnes_xor, BitVec.toNat_not, BitVec.toNat_ofNat, Nat.mod_eq_of_lt h]
    rw [BitVec.toNat_xor, BitVec.toNat_ofNat, BitVec.toNat_ofNat, Nat.mod_eq_of_lt h] at hb
    exact hb
  rw [h2] at h1
  exact h1
/-- The mask of a number that is not below zero. -/
theorem mask_pos (d : Nat) (h : d < 2147483648) : ∃ (E : Nat) (X : Int), bits .xor .u64 IntKind.u64.max (d : Int) = (E : Int) ∧ wrap32 (E : Int) = X ∧ X / 2147483648 = -1 :=
  ⟨18446744073709551615 - d, _, xor_max d (by omega), rfl, by unfold wrap32; omega⟩
/-- The mask of a number below zero. -/
theorem mask_neg (a b : Nat) (h : a < b) (hb : b < 2147483648) : ∃ (F E : Nat) (X : Int), IntKind.u64.wrap ((a : Int) - (b : Int)) = (F : Int) ∧ bits .xor .u64 IntKind.u64.max (F : Int) = (E : Int) ∧ wrap32 (E : Int) = X ∧ X / 2147483648 = 0 :=
  ⟨18446744073709551616 + a - b, b - a - 1, _, by rw [IntKind.wrap_u64]; omega, by rw [xor_max _ (by omega)]; omega, rfl, by unfold wrap32; omega⟩
theorem u64_nat (a : Nat) (h : a < 4294967296) : IntKind.u64.wrap (a : Int) = (a : Int) := by rw [IntKind.wrap_u64]; omega
theorem w64_all : ∀ a : Nat, a ≤ 100000 → wrap64 (a : Int) = (a : Int) := fun a h => by unfold wrap64; omega
theorem w64_one : ∀ a : Nat, a ≤ 100000 → wrap64 ((a : Int) + 1) = (a : Int) + 1 := fun a h => by unfold wrap64; omega
theorem u64_all : ∀ a : Nat, a ≤ 100000 → IntKind.u64.wrap (a : Int) = (a : Int) := fun a h => u64_nat a (by omega)
theorem w64_pp (P : Nat) (h : P < 256) : wrap64 (wrap64 (P : Int) + 1) = (P : Int) + 1 := by unfold wrap64; omega
theorem and_all (x : UInt8) : bits .and .u8 255 (x.toNat : Int) = (x.toNat : Int) := by
  have h := u8_and_nat 255 x.toNat (by omega) x.toNat_lt
  rw [show (255 &&& x.toNat : Nat) = x.toNat from ?_] at h
  · exact h
  · have hb : ((255 : UInt8) &&& x).toNat = x.toNat := by rw [show (255 : UInt8) = -1 by decide, UInt8.neg_one_and]
    rw [UInt8.toNat_and] at hb
    exact hb
theorem and_none (x : UInt8) : bits .and .u8 0 (x.toNat : Int) = 0 := by
  have h := u8_and_nat 0 x.toNat (by omega) x.toNat_lt
  rw [Nat.zero_and] at h
  exact h
set_option maxHeartbeats 2000000 in
theorem pad_lo (l : List UInt8) (p : UInt8) (L : Nat) (hl : l.length = L) (hL : L ≤ 100000) (hc : L < 256) (hp : p.toNat + 1 ≤ L) (hv : ∀ i, i ≤ p.toNat → l.getD (L - 1 - i) 0 = p) (b o c : Nat) (w : World) (hr : Rd w (some ⟨b, o, none⟩) (vs l)) :
    Calls Tryd.prog 73 #[.slice (some ⟨b, o, none⟩) L c] w fun e w' => e = .returned (.tuple #[.int .i64 ((p.toNat + 1 : Nat) : Int), .int .u8 255]) ∧ Below w.heap.size w w' := by
  have HV := Lib.hid hv
  have HR := Lib.hid hr
  obtain ⟨L1, hL1⟩ : ∃ k, L - 1 = k := ⟨_, rfl⟩
  have HL := Lib.hid (And.intro hl (And.intro hL (And.intro hp (And.intro hc hL1))))
  have x0 : w.cell? ⟨b, o + L1, none⟩ = some (.int .u8 p.toNat) := by
    have h := hr.byte L1 (by omega)
    have h2 := hv 0 (Nat.zero_le _)
    rw [Nat.sub_zero, hL1] at h2
    rw [h2] at h
    exact h
  obtain ⟨P, hP⟩ : ∃ P, p.toNat = P := ⟨_, rfl⟩
  have hP256 : P < 256 := by rw [← hP]; exact p.toNat_lt
  have ha1 := and_all p
  have ha0 := and_none p
  have hx0 : bits .xor .u8 (P : Int) (P : Int) = 0 := by rw [← hP]; exact u8_self p
  rw [hP] at x0 HV HL ha1 ha0 ⊢
  have HP := Lib.hid (And.intro hP hP256)
  have g0 : (L : Int) - 1 = (L1 : Int) := by omega
  have g2 : (L1 : Int) < L := by omega
  have t0 : decide ((L : Int) < 1) = false := decide_eq_false (by omega)
  obtain ⟨d, hd⟩ : ∃ d, L1 - P = d := ⟨_, rfl⟩
  have g3 : (L1 : Int) - (P : Int) = (d : Int) := by omega
  have hdl : d < 2147483648 := by omega
  have c1 : (L : Int) < 256 := by omega
  have Hg1' : Hid (wrap64 (L1 : Int) = (L1 : Int)) := Lib.hid (w64_all L1 (by omega))
  have Hg1 : Hid (IntKind.i64.wrap (L1 : Int) = (L1 : Int)) := Lib.hid (i64_nat L1 (by omega))
  have Hg4 : Hid (IntKind.u64.wrap (L1 : Int) = (L1 : Int)) := Lib.hid (u64_nat L1 (by omega))
  have Hg5 : Hid (IntKind.u64.wrap (P : Int) = (P : Int)) := Lib.hid (u64_nat P (by omega))
  have Hg6 : Hid (IntKind.u64.wrap (d : Int) = (d : Int)) := Lib.hid (u64_nat d (by omega))
  have m4 : (-1 : Int) % 256 = 255 := by decide
  have k1 : bits .andNot .u8 255 0 = 255 := by kernel_rfl
  have k2 : bits .xor .u8 0 0 = 0 := by kernel_rfl
  have k3 : bits .and .u8 255 240 = 240 := by kernel_rfl
  have k4 : bits .and .u8 240 192 = 192 := by kernel_rfl
  have k5 : bits .and .u8 192 128 = 128 := by kernel_rfl
  obtain ⟨E, X, m1, m2, m3⟩ := mask_pos d hdl
  clear hl hL hp hc hv hr hP hP256 hL1 hd hdl
  have g1 := Hg1.out
  have g1' := Hg1'.out
  have g4 := Hg4.out
  have g5 := Hg5.out
  have g6 := Hg6.out
  go_enter Tryd.func73, Tryd.ntmps73
  go_wp2_with fail
  clear m1 m2 m3 g1 g1' g4 g5 g6
  go_loopw [3, 36] (fun v i wr => ∃ j : Nat, j ≤ L ∧ v = .int .u8 255 ∧ i = .int .i64 j ∧ Hid (Below w.heap.size w wr)) (fun _ i _ => L - (intOf i).toNat)
  case atStart => exact ⟨0, Nat.zero_le _, rfl, rfl, Lib.hid (Below.refl _ _)⟩
  case round =>
    obtain ⟨j, hj, rfl, rfl, HJ⟩ := hrel
    by_cases hlt : j < L
    · obtain ⟨q, hq⟩ : ∃ q, L1 - j = q := ⟨_, rfl⟩
      have q1 : (L1 : Int) - (j : Int) = (q : Int) := by have := HL.out; omega
      have q2 : (q : Int) < L := by have := HL.out; omega
      have q3 : (j : Int) < L := by omega
      have Hq5' : Hid (wrap64 (q : Int) = (q : Int)) := Lib.hid (w64_all q (by have := HL.out; omega))
      have Hq5 : Hid (IntKind.i64.wrap (q : Int) = (q : Int)) := Lib.hid (i64_nat q (by have := HL.out; omega))
      have Hq6 : Hid (IntKind.u64.wrap (j : Int) = (j : Int)) := Lib.hid (u64_nat j (by have := HL.out; omega))
      have l5 : j ≤ 100000 := by have := HL.out; omega
      have q4 : decide ((j : Int) < L) = true := decide_eq_true q3
      have x1 : wr.cell? ⟨b, o + q, none⟩ = some (.int .u8 (l.getD q 0).toNat) := (HR.out.keep HJ.out).byte q (by have := HL.out; omega)
      by_cases hjp : j ≤ P
      · have hxp : l.getD q 0 = p := by rw [← hq, ← HL.out.2.2.2.2]; exact HV.out j hjp
        rw [hxp, HP.out.1] at x1
        obtain ⟨d', hd'⟩ : ∃ d, P - j = d := ⟨_, rfl⟩
        have q7 : (P : Int) - (j : Int) = (d' : Int) := by omega
        have Hq8 : Hid (IntKind.u64.wrap (d' : Int) = (d' : Int)) := Lib.hid (u64_nat d' (by have := HP.out; omega))
        have hdl : d' < 2147483648 := by have := HP.out; omega
        obtain ⟨E', X', m1, m2, m3⟩ := mask_pos d' hdl
        clear hq hxp hd' hjp hdl
        have g5 := Hg5.out
        have q6 := Hq6.out
        have q8 := Hq8.out
        go_upto_region 12 with (fail)
        clear g5 q6 m1 m2 m3 q8
        have g1 := Hg1.out
        have g1' := Hg1'.out
        have q5 := Hq5.out
        have q5' := Hq5'.out
        go_upto_region 13 with (fail)
        clear g1 g1' q5 q5'
        go_upto_region 14 with (fail)
        clear m4 k1 k2 k3 k4 k5 q1 q2 q3 q4 x1
        have jw := w64_one j l5
        go_wp2_with fail
        go_roundw
        case rel => exact ⟨j + 1, hlt, by first | rfl | simp [k1], by first | (rw [w64_one j l5]; go_num) | go_num, HJ⟩
        case measure => first | exact t_meas hlt | (rw [w64_one j l5]; exact t_meas hlt)
      · obtain ⟨F, E', X', m0, m1, m2, m3⟩ := mask_neg P j (by omega) (by have := HL.out; omega)
        have ha2 := and_none (l.getD q 0)
        obtain ⟨x, hx⟩ : ∃ x, (l.getD q 0).toNat = x := ⟨_, rfl⟩
        rw [hx] at x1 ha2
        clear hq hjp hx
        have g5 := Hg5.out
        have q6 := Hq6.out
        go_upto_region 12 with (fail)
        clear g5 q6 m1 m2 m3 m0
        have g1 := Hg1.out
        have g1' := Hg1'.out
        have q5 := Hq5.out
        have q5' := Hq5'.out
        go_upto_region 13 with (fail)
        clear g1 g1' q5 q5'
        go_upto_region 14 with (fail)
        clear m4 k1 k2 k3 k4 k5 q1 q2 q3 q4 x1
        have jw := w64_one j l5
        go_wp2_with fail
        go_roundw
        case rel => exact ⟨j + 1, hlt, by first | rfl | simp [k1], by first | (rw [w64_one j l5]; go_num) | go_num, HJ⟩
        case measure => first | exact t_meas hlt | (rw [w64_one j l5]; exact t_meas hlt)
    · obtain rfl : L = j := by omega
      have HF := Lib.hid HJ.out
      have q3 : ¬ ((L : Nat) : Int) < L := by omega
      have z1 : ((P + 1 : Nat) : Int) = (P : Int) + 1 := by omega
      clear HJ hlt hj
      go_wp2_with fail
      first | go_ret2 | go_ret
      have hz1 := w64_pp P HP.out.2
      have hz2 : IntKind.i8.wrap 128 / 128 % 256 = 255 := by kernel_rfl
      clear z1
      first | exact ⟨by rw [← hz2]; rfl, HF.out⟩ | exact ⟨by rw [← hz1, ← hz2]; rfl, HF.out⟩
set_option maxHeartbeats 2000000 in
theorem pad_hi (l : List UInt8) (p : UInt8) (L : Nat) (hl : l.length = L) (hL : L ≤ 100000) (hc : 256 ≤ L) (hp : p.toNat + 1 ≤ L) (hv : ∀ i, i ≤ p.toNat → l.getD (L - 1 - i) 0 = p) (b o c : Nat) (w : World) (hr : Rd w (some ⟨b, o, none⟩) (vs l)) :
    Calls Tryd.prog 73 #[.slice (some ⟨b, o, none⟩) L c] w fun e w' => e = .returned (.tuple #[.int .i64 ((p.toNat + 1 : Nat) : Int), .int .u8 255]) ∧ Below w.heap.size w w' := by
  have HV := Lib.hid hv
  have HR := Lib.hid hr
  obtain ⟨L1, hL1⟩ : ∃ k, L - 1 = k := ⟨_, rfl⟩
  have HL := Lib.hid (And.intro hl (And.intro hL (And.intro hp (And.intro hc hL1))))
  have x0 : w.cell? ⟨b, o + L1, none⟩ = some (.int .u8 p.toNat) := by
    have h := hr.byte L1 (by omega)
    have h2 := hv 0 (Nat.zero_le _)
    rw [Nat.sub_zero, hL1] at h2
    rw [h2] at h
    exact h
  obtain ⟨P, hP⟩ : ∃ P, p.toNat = P := ⟨_, rfl⟩
  have hP256 : P < 256 := by rw [← hP]; exact p.toNat_lt
  have ha1 := and_all p
  have ha0 := and_none p
  have hx0 : bits .xor .u8 (P : Int) (P : Int) = 0 := by rw [← hP]; exact u8_self p
  rw [hP] at x0 HV HL ha1 ha0 ⊢
  have HP := Lib.hid (And.intro hP hP256)
  have g0 : (L : Int) - 1 = (L1 : Int) := by omega
  have g2 : (L1 : Int) < L := by omega
  have t0 : decide ((L : Int) < 1) = false := decide_eq_false (by omega)
  obtain ⟨d, hd⟩ : ∃ d, L1 - P = d := ⟨_, rfl⟩
  have g3 : (L1 : Int) - (P : Int) = (d : Int) := by omega
  have hdl : d < 2147483648 := by omega
  have c1 : ¬ (L : Int) < 256 := by omega
  have Hg1' : Hid (wrap64 (L1 : Int) = (L1 : Int)) := Lib.hid (w64_all L1 (by omega))
  have Hg1 : Hid (IntKind.i64.wrap (L1 : Int) = (L1 : Int)) := Lib.hid (i64_nat L1 (by omega))
  have Hg4 : Hid (IntKind.u64.wrap (L1 : Int) = (L1 : Int)) := Lib.hid (u64_nat L1 (by omega))
  have Hg5 : Hid (IntKind.u64.wrap (P : Int) = (P : Int)) := Lib.hid (u64_nat P (by omega))
  have Hg6 : Hid (IntKind.u64.wrap (d : Int) = (d : Int)) := Lib.hid (u64_nat d (by omega))
  have m4 : (-1 : Int) % 256 = 255 := by decide
  have k1 : bits .andNot .u8 255 0 = 255 := by kernel_rfl
  have k2 : bits .xor .u8 0 0 = 0 := by kernel_rfl
  have k3 : bits .and .u8 255 240 = 240 := by kernel_rfl
  have k4 : bits .and .u8 240 192 = 192 := by kernel_rfl
  have k5 : bits .and .u8 192 128 = 128 := by kernel_rfl
  obtain ⟨E, X, m1, m2, m3⟩ := mask_pos d hdl
  clear hl hL hp hc hv hr hP hP256 hL1 hd hdl
  have g1 := Hg1.out
  have g1' := Hg1'.out
  have g4 := Hg4.out
  have g5 := Hg5.out
  have g6 := Hg6.out
  go_enter Tryd.func73, Tryd.ntmps73
  go_wp2_with fail
  clear m1 m2 m3 g1 g1' g4 g5 g6
  go_loopw [3, 36] (fun v i wr => ∃ j : Nat, j ≤ 256 ∧ v = .int .u8 255 ∧ i = .int .i64 j ∧ Hid (Below w.heap.size w wr)) (fun _ i _ => 256 - (intOf i).toNat)
  case atStart => exact ⟨0, Nat.zero_le _, rfl, rfl, Lib.hid (Below.refl _ _)⟩
  case round =>
    obtain ⟨j, hj, rfl, rfl, HJ⟩ := hrel
    by_cases hlt : j < 256
    · obtain ⟨q, hq⟩ : ∃ q, L1 - j = q := ⟨_, rfl⟩
      have q1 : (L1 : Int) - (j : Int) = (q : Int) := by have := HL.out; omega
      have q2 : (q : Int) < L := by have := HL.out; omega
      have q3 : (j : Int) < 256 := by omega
      have Hq5' : Hid (wrap64 (q : Int) = (q : Int)) := Lib.hid (w64_all q (by have := HL.out; omega))
      have Hq5 : Hid (IntKind.i64.wrap (q : Int) = (q : Int)) := Lib.hid (i64_nat q (by have := HL.out; omega))
      have Hq6 : Hid (IntKind.u64.wrap (j : Int) = (j : Int)) := Lib.hid (u64_nat j (by have := HL.out; omega))
      have l5 : j ≤ 100000 := by have := HL.out; omega
      have q4 : decide ((j : Int) < 256) = true := decide_eq_true q3
      have x1 : wr.cell? ⟨b, o + q, none⟩ = some (.int .u8 (l.getD q 0).toNat) := (HR.out.keep HJ.out).byte q (by have := HL.out; omega)
      by_cases hjp : j ≤ P
      · have hxp : l.getD q 0 = p := by rw [← hq, ← HL.out.2.2.2.2]; exact HV.out j hjp
        rw [hxp, HP.out.1] at x1
        obtain ⟨d', hd'⟩ : ∃ d, P - j = d := ⟨_, rfl⟩
        have q7 : (P : Int) - (j : Int) = (d' : Int) := by omega
        have Hq8 : Hid (IntKind.u64.wrap (d' : Int) = (d' : Int)) := Lib.hid (u64_nat d' (by have := HP.out; omega))
        have hdl : d' < 2147483648 := by have := HP.out; omega
        obtain ⟨E', X', m1, m2, m3⟩ := mask_pos d' hdl
        clear hq hxp hd' hjp hdl
        have g5 := Hg5.out
        have q6 := Hq6.out
        have q8 := Hq8.out
        go_upto_region 12 with (fail)
        clear g5 q6 m1 m2 m3 q8
        have g1 := Hg1.out
        have g1' := Hg1'.out
        have q5 := Hq5.out
        have q5' := Hq5'.out
        go_upto_region 13 with (fail)
        clear g1 g1' q5 q5'
        go_upto_region 14 with (fail)
        clear m4 k1 k2 k3 k4 k5 q1 q2 q3 q4 x1
        have jw := w64_one j l5
        go_wp2_with fail
        go_roundw
        case rel => exact ⟨j + 1, hlt, by first | rfl | simp [k1], by first | (rw [w64_one j l5]; go_num) | go_num, HJ⟩
        case measure => first | exact t_meas hlt | (rw [w64_one j l5]; exact t_meas hlt)
      · obtain ⟨F, E', X', m0, m1, m2, m3⟩ := mask_neg P j (by omega) (by have := HL.out; omega)
        have ha2 := and_none (l.getD q 0)
        obtain ⟨x, hx⟩ : ∃ x, (l.getD q 0).toNat = x := ⟨_, rfl⟩
        rw [hx] at x1 ha2
        clear hq hjp hx
        have g5 := Hg5.out
        have q6 := Hq6.out
        go_upto_region 12 with (fail)
        clear g5 q6 m1 m2 m3 m0
        have g1 := Hg1.out
        have g1' := Hg1'.out
        have q5 := Hq5.out
        have q5' := Hq5'.out
        go_upto_region 13 with (fail)
        clear g1 g1' q5 q5'
        go_upto_region 14 with (fail)
        clear m4 k1 k2 k3 k4 k5 q1 q2 q3 q4 x1
        have jw := w64_one j l5
        go_wp2_with fail
        go_roundw
        case rel => exact ⟨j + 1, hlt, by first | rfl | simp [k1], by first | (rw [w64_one j l5]; go_num) | go_num, HJ⟩
        case measure => first | exact t_meas hlt | (rw [w64_one j l5]; exact t_meas hlt)
    · obtain rfl : j = 256 := by omega
      have HF := Lib.hid HJ.out
      have q3 : ¬ (256 : Int) < 256 := by omega
      have z1 : ((P + 1 : Nat) : Int) = (P : Int) + 1 := by omega
      clear HJ hlt hj
      go_wp2_with fail
      first | go_ret2 | go_ret
      have hz1 := w64_pp P HP.out.2
      have hz2 : IntKind.i8.wrap 128 / 128 % 256 = 255 := by kernel_rfl
      clear z1
      first | exact ⟨by rw [← hz2]; rfl, HF.out⟩ | exact ⟨by rw [← hz1, ← hz2]; rfl, HF.out⟩
theorem pad_any (l : List UInt8) (p : UInt8) (L : Nat) (hl : l.length = L) (hL : L ≤ 100000) (hp : p.toNat + 1 ≤ L) (hv : ∀ i, i ≤ p.toNat → l.getD (L - 1 - i) 0 = p) (b o c : Nat) (w : World) (hr : Rd w (some ⟨b, o, none⟩) (vs l)) :
    Calls Tryd.prog 73 #[.slice (some ⟨b, o, none⟩) L c] w fun e w' => e = .returned (.tuple #[.int .i64 ((p.toNat + 1 : Nat) : Int), .int .u8 255]) ∧ Below w.heap.size w w' := by
  by_cases hc : L < 256
  · exact pad_lo l p L hl hL hc hp hv b o c w hr
  · exact pad_hi l p L hl hL (by omega) hp hv b o c w hr
end Go.Proofs.YtpedkkmoplbdhaaDoor
