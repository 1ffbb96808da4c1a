/- Walks: the stand-in of a block cipher. -/
import Derived.Test.YtpedkkmoplbdhaaDoorBc
import Derived.Test.YtpedkkmoplbdhaaDoorAeT
namespace Go.Proofs.YtpedkkmoplbdhaaDoor
open Go.RowKit Go.Cv
set_option maxRecDepth 100000
set_option linter.unusedVariables false
theorem t_u8m7 (x : UInt8) : IntKind.u8.wrap ((x.toNat : Int) * 7) = ((x * 7).toNat : Int) := by
  rw [IntKind.wrap_u8, UInt8.toNat_mul]; simp
set_option maxHeartbeats 1000000 in
theorem t_enc (key b : List UInt8) (hb16 : b.length = 16) (w : World) :
    Calls Tryd.prog 187 #[.string (S key), .string (S b)] w fun e w' => e = .returned (.string (S (tEnc key b))) ∧ Below w.heap.size w w' := by
  have HST := Lib.hid (fun i (hi : i ≤ 1000000) => t_keyed key i hi)
  have hz : (S b).size = 16 := by rw [S_size, hb16]
  have HM := Lib.hid hb16
  clear hb16
  go_enter Tryd.func187, Tryd.ntmps187
  go_wp2_with fail
  refine upon_make 51 5 (.int .u8 0) 1 Tryd.underlying51 t_u8info rfl 16 16 rfl rfl (Nat.le_refl _) (by omega) (by simp only [maxLen]; omega) ?_
  intro w1 hown hb hsz
  obtain ⟨p, hp⟩ : ∃ p, w.heap.size = p := ⟨_, rfl⟩
  rw [hp] at hown hb hsz ⊢
  have HO0 : Hid (Own w1 p 1 (some ⟨p, 0, none⟩) 16 16 (vs (encJ key b 0))) := Lib.hid (by rw [encJ, vs_rep]; exact hown)
  have HB0 := Lib.hid hb
  have HP := Lib.hid hp
  clear hown hb hsz hp
  go_wp2_with fail
  go_loopw [6] (fun i wr => ∃ j : Nat, j ≤ 16 ∧ i = .int .i64 j ∧ Hid (Own wr p 1 (some ⟨p, 0, none⟩) 16 16 (vs (encJ key b j)) ∧ Below p w wr)) (fun i _ => 16 - (intOf i).toNat)
  case atStart => exact ⟨0, Nat.zero_le _, rfl, Lib.hid ⟨HO0.out, HB0.out⟩⟩
  case round =>
    obtain ⟨j, hj, rfl, HJ⟩ := hrel
    by_cases hlt : j < 16
    · have C1 := Lib.hid (HST.out j (by omega))
      have hix := fun w' => run_index_S (P := Tryd.prog) w' 9 Tryd.underlying9 b .i64 j j rfl (by rw [HM.out]; exact hlt)
      obtain ⟨a, ha⟩ : ∃ a, j * 5 = a := ⟨_, rfl⟩
      obtain ⟨c, hc⟩ : ∃ c, a + 3 = c := ⟨_, rfl⟩
      obtain ⟨q, hq⟩ : ∃ q, c % 16 = q := ⟨_, rfl⟩
      have hq16 : q < 16 := by omega
      have HE : Hid (encJ key b (j + 1) = (encJ key b j).set q (b.getD j 0 * 7 + aKeyed key j)) := Lib.hid (by rw [encJ, ha, hc, hq])
      obtain ⟨cx, fx⟩ := own_vs HJ.out.1 q hq16
      have cx : wr.drew.cell? ⟨p, q, none⟩ = some (.int .u8 ((encJ key b j).getD q 0).toNat) := cx
      have fx : wr.drew.frozen? ⟨p, q, none⟩ = false := fx
      obtain ⟨old, hold⟩ : ∃ o, (encJ key b j).getD q 0 = o := ⟨_, rfl⟩
      rw [hold] at cx
      obtain ⟨x, hx⟩ : ∃ x, b.getD j 0 = x := ⟨_, rfl⟩
      obtain ⟨y, hy⟩ : ∃ y, aKeyed key j = y := ⟨_, rfl⟩
      rw [hx] at hix HE
      rw [hy] at C1 HE
      have e0 := t_u8m7 x
      obtain ⟨x7, hx7⟩ : ∃ z, x * 7 = z := ⟨_, rfl⟩
      rw [hx7] at e0 HE
      have e1 := u8a x7 y
      obtain ⟨z, hzz⟩ : ∃ z, x7 + y = z := ⟨_, rfl⟩
      rw [hzz] at e1 HE
      have hset := own_vs_set HJ.out.1 q z hq16
      rw [← HE.out] at hset
      have HSE := Lib.hid hset
      have HBE := Lib.hid (HJ.out.2.setCell (p := ⟨p, q, none⟩) (Nat.le_refl _) (.int .u8 (z.toNat : Int)))
      have k7 : (q : Int) < 16 := by omega
      have cy : wr.cell? ⟨p, q, none⟩ = some (.int .u8 (old.toNat : Int)) := cx
      have fy : wr.frozen? ⟨p, q, none⟩ = false := fx
      have t1 : decide ((j : Int) < 16) = true := by simp; omega
      have g1 : (j : Int) * 5 = (a : Int) := by omega
      have g3 : (a : Int) + 3 = (c : Int) := by omega
      have Hg5 : Hid ((c : Int).tmod 16 = (q : Int)) := Lib.hid (by rw [Int.tmod_eq_emod_of_nonneg (by omega)]; omega)
      have Hg6 : Hid ((c : Int) % 16 = (q : Int)) := Lib.hid (by omega)
      have Hg2 : Hid (IntKind.i64.wrap (a : Int) = (a : Int)) := Lib.hid (i64_nat a (by omega))
      have Hg4 : Hid (IntKind.i64.wrap (c : Int) = (c : Int)) := Lib.hid (i64_nat c (by omega))
      have Hg7 : Hid (IntKind.i64.wrap (q : Int) = (q : Int)) := Lib.hid (i64_nat q (by omega))
      have jw := w64_inc hlt (by omega)
      have g5 := Hg5.out
      have g6 := Hg6.out
      have g2 := Hg2.out
      have g4 := Hg4.out
      have g7 := Hg7.out
      clear Hg5 Hg6 Hg2 Hg4 Hg7
      clear hx hy hzz hold hset ha hc hq hx7
      go_wp2_with fail
      go_region_held_law (fun _ => True) (exact trivial) (first
        | (go_at_call 132; with_reducible refine (C1.out _).mono ?_; rintro e w5 ⟨rfl, rfl⟩))
      all_goals
        have HSD : Hid (Own (wr.setCell ⟨p, q, none⟩ (.int .u8 (z.toNat : Int))).drew p 1 (some ⟨p, 0, none⟩) 16 16 (vs (encJ key b (j + 1)))) := HSE
        have HBD : Hid (Below p w (wr.setCell ⟨p, q, none⟩ (.int .u8 (z.toNat : Int))).drew) := Lib.hid HBE.out.drew
        clear cx fx cy fy
        generalize World.drew (World.setCell wr _ _) = w9 at *
        go_wp2_with fail
        go_roundw
        case rel => exact ⟨j + 1, hlt, by first | (rw [jw]; go_num) | go_num, Lib.hid ⟨HSD.out, HBD.out⟩⟩
        case measure => first | exact t_meas hlt | (rw [jw]; exact t_meas hlt)
    · obtain rfl : j = 16 := by omega
      have HF := Lib.hid HJ.out
      clear HJ hlt hj HO0 HB0
      go_wp2_with fail
      refine upon_conv_bs 51 9 5 Tryd.underlying51 Tryd.underlying5 Tryd.underlying9 (tEnc key b) _ _ _ (tEnc_length key b) HF.out.1.rd ?_
      go_wp2_with fail
      first | go_ret2 | go_ret
      have hB : Below w.heap.size w wr := by rw [HP.out]; exact HF.out.2
      exact ⟨rfl, hB⟩
end Go.Proofs.YtpedkkmoplbdhaaDoor
