/- Walks: the additional data of a record without a connection ID, in the library. -/
import Derived.Test.YtpedkkmoplbdhaaDoorChA
import Derived.Test.YtpedkkmoplbdhaaDoorHdw
import Derived.Test.YtpedkkmoplbdhaaDoorBase
namespace Go.Proofs.YtpedkkmoplbdhaaDoor
open Go.RowKit Go.Cv
set_option maxRecDepth 100000
set_option linter.unusedVariables false
def v8 (v : Nat) : List Value := [.int .u8 ((v : Int) / 72057594037927936 % 256), .int .u8 ((v : Int) / 281474976710656 % 256), .int .u8 ((v : Int) / 1099511627776 % 256), .int .u8 ((v : Int) / 4294967296 % 256), .int .u8 ((v : Int) / 16777216 % 256), .int .u8 ((v : Int) / 65536 % 256), .int .u8 ((v : Int) / 256 % 256), .int .u8 ((v : Int) % 256)]
set_option maxHeartbeats 1000000 in
theorem u64_put13 (B b : Nat) (v : Nat) (xs : List Value) (w : World) (hown : Own w B 1 (some ⟨b, 0, none⟩) 13 13 xs) :
    Calls Tryd.prog 87 #[.agg #[], .slice (some ⟨b, 0, none⟩) 13 13, .int .u64 v] w fun e w' =>
      e = .returned (.tuple #[]) ∧ Own w' B 1 (some ⟨b, 0, none⟩) 13 13 (v8 v ++ xs.drop 8) ∧ w.grownBy w' (some b) := by
  obtain ⟨a0, a1, a2, a3, a4, a5, a6, a7, a8, a9, a10, a11, a12, rfl⟩ : ∃ a0 a1 a2 a3 a4 a5 a6 a7 a8 a9 a10 a11 a12, xs = [a0, a1, a2, a3, a4, a5, a6, a7, a8, a9, a10, a11, a12] := by
    have h := hown.1
    match xs, h with
    | [a0, a1, a2, a3, a4, a5, a6, a7, a8, a9, a10, a11, a12], _ => exact ⟨_, _, _, _, _, _, _, _, _, _, _, _, _, rfl⟩
  obtain ⟨v0, _, hc0, hf0⟩ := hown.at_ 0 (by omega)
  obtain ⟨v1, _, hc1, hf1⟩ := hown.at_ 1 (by omega)
  obtain ⟨v2, _, hc2, hf2⟩ := hown.at_ 2 (by omega)
  obtain ⟨v3, _, hc3, hf3⟩ := hown.at_ 3 (by omega)
  obtain ⟨v4, _, hc4, hf4⟩ := hown.at_ 4 (by omega)
  obtain ⟨v5, _, hc5, hf5⟩ := hown.at_ 5 (by omega)
  obtain ⟨v6, _, hc6, hf6⟩ := hown.at_ 6 (by omega)
  obtain ⟨v7, _, hc7, hf7⟩ := hown.at_ 7 (by omega)
  have hb0 := block_lt hc0
  simp at hc0 hc1 hc2 hc3 hc4 hc5 hc6 hc7 hf0 hf1 hf2 hf3 hf4 hf5 hf6 hf7 hb0
  have HO := Lib.hid hown
  clear hown
  go_enter Tryd.func87, Tryd.ntmps87
  go_wp2_with fail
  go_end0
  have hs := (((((((HO.out.set 0 (by omega) (.int .u8 ((v : Int) / 72057594037927936 % 256))).set 1 (by omega) (.int .u8 ((v : Int) / 281474976710656 % 256))).set 2 (by omega) (.int .u8 ((v : Int) / 1099511627776 % 256))).set 3 (by omega) (.int .u8 ((v : Int) / 4294967296 % 256))).set 4 (by omega) (.int .u8 ((v : Int) / 16777216 % 256))).set 5 (by omega) (.int .u8 ((v : Int) / 65536 % 256))).set 6 (by omega) (.int .u8 ((v : Int) / 256 % 256))).set 7 (by omega) (.int .u8 ((v : Int) % 256))
  have hT := (((((((Tch.set w b 0 (.int .u8 ((v : Int) / 72057594037927936 % 256))).trans (Tch.set _ b 1 (.int .u8 ((v : Int) / 281474976710656 % 256)))).trans (Tch.set _ b 2 (.int .u8 ((v : Int) / 1099511627776 % 256)))).trans (Tch.set _ b 3 (.int .u8 ((v : Int) / 4294967296 % 256)))).trans (Tch.set _ b 4 (.int .u8 ((v : Int) / 16777216 % 256)))).trans (Tch.set _ b 5 (.int .u8 ((v : Int) / 65536 % 256)))).trans (Tch.set _ b 6 (.int .u8 ((v : Int) / 256 % 256)))).trans (Tch.set _ b 7 (.int .u8 ((v : Int) % 256)))
  have hs2 := hs.keep (below_alloc _ (.cells #[] 114))
  simp at hs2
  exact ⟨rfl, hs2, (hT.then (Tch.alloc _ _) (by simp)).toGrown⟩
def add13 (ct maj mn : UInt8) (ep sq m : Nat) : List UInt8 := be 2 ep ++ (be 6 sq ++ ([ct, maj, mn] ++ be 2 m))
set_option maxHeartbeats 2000000 in
theorem genA_x (g : Nat) (ct maj mn : UInt8) (ep sq cl n c m : Nat) (x : Int) (A : Option Addr) (hsq : sq < 281474976710656) (e16 : IntKind.u16.wrap x = (m : Int)) (w : World) (hg : Blk w g 53 (hwRow ct maj mn ep sq cl A n c)) :
    Calls Tryd.prog 55 #[.pointer (some ⟨g, 0, none⟩), .int .i64 x] w fun e w' => ∃ A', e = .returned (.slice A' 13 13) ∧ Rd w' A' (vs (add13 ct maj mn ep sq m)) ∧ Below w.heap.size w w' := by
  have HG := Lib.hid hg
  have HSQ := Lib.hid hsq
  clear hg hsq
  go_enter Tryd.func55, Tryd.ntmps55
  go_wp2_with fail
  obtain ⟨N, hN⟩ : ∃ N, w.heap.size = N := ⟨_, rfl⟩
  have hB1 := below_alloc w (.cells (Array.replicate 13 (Value.int .u8 0)) 155)
  have hK1 := Blk.new w 155 (Array.replicate 13 (Value.int .u8 0))
  have hO1 : Own (w.alloc (.cells (Array.replicate 13 (Value.int .u8 0)) 155)) N 1 (some ⟨N, 0, none⟩) 13 13 (Array.replicate 13 (Value.int .u8 0)).toList := own_blk (by rw [← hN]; exact hK1) N 13 (Nat.le_refl _) rfl (by simp only [maxLen]; omega)
  have hs1 := World.size_alloc w (.cells (Array.replicate 13 (Value.int .u8 0)) 155)
  change Code.wp _ _ _ _ (w.alloc (.cells (Array.replicate 13 (Value.int .u8 0)) 155))
  rw [hN] at hB1 hs1 ⊢
  generalize (w.alloc (.cells (Array.replicate 13 (Value.int .u8 0)) 155)) = w1 at *
  have HN := Lib.hid hN
  have HOD : Hid (Own w1.drew N 1 (some ⟨N, 0, none⟩) 13 13 (Array.replicate 13 (Value.int .u8 0)).toList) := hO1
  have HBD : Hid (Below N w w1.drew) := Lib.hid hB1.drew
  have HS1 : Hid (N ≤ w1.drew.heap.size) := Lib.hid (by show N ≤ w1.heap.size; omega)
  have c5 := (hdc (HG.out.keep (by rw [HN.out]; exact HBD.out))).2.2.2.2.2.1
  clear hB1 hK1 hO1 hs1 hN
  refine wp_region_still_tail 6 (by kernel_rfl) (by kernel_rfl) ?_
  simp only [List.take_succ_cons, List.take_zero, List.drop_succ_cons, List.drop_zero]
  change wpStill _ _ (World.drew w1) (fun a => wpList _ _ _ _ a (World.drew w1)) _ _
  generalize World.drew w1 = wd at *
  repeat still_step
  refine wpStill_nil ?_
  go_wp2_with fail
  refine (u64_put13 N N sq _ wd HOD.out).mono ?_
  rintro e w2 ⟨rfl, hO2, hg2⟩
  have HOD2 : Hid (Own w2.drew N 1 (some ⟨N, 0, none⟩) 13 13 (v8 sq ++ (Array.replicate 13 (Value.int .u8 0)).toList.drop 8)) := hO2
  have HBD2 : Hid (Below N w w2.drew) := Lib.hid (below_of_grown HBD.out hg2 HS1.out (Nat.le_refl _)).drew
  have HS2 : Hid (N ≤ w2.drew.heap.size) := Lib.hid (Nat.le_trans HS1.out hg2.size)
  have c4 := (hdc (HG.out.keep (by rw [HN.out]; exact HBD2.out))).2.2.2.2.1
  clear hO2 hg2 HOD HBD HS1 c5
  go_wp2_with fail
  refine wp_region_still_tail 6 (by kernel_rfl) (by kernel_rfl) ?_
  simp only [List.take_succ_cons, List.take_zero, List.drop_succ_cons, List.drop_zero]
  change wpStill _ _ (World.drew w2) (fun a => wpList _ _ _ _ a (World.drew w2)) _ _
  generalize World.drew w2 = we at *
  repeat still_step
  refine wpStill_nil ?_
  go_wp2_with fail
  refine (put16_any N N 0 13 13 0 0 13 13 _ ep we HOD2.out (by omega) (by omega) (by omega)).mono ?_
  rintro e w3 ⟨rfl, hO3, hg3⟩
  have HB3 : Hid (Below N w w3) := Lib.hid (below_of_grown HBD2.out hg3 HS2.out (Nat.le_refl _))
  have HO3 := Lib.hid hO3
  have hk3 := HG.out.keep (w' := w3) (by rw [HN.out]; exact HB3.out)
  obtain ⟨k0, _, k2, k3, _, _, _⟩ := hdc hk3
  obtain ⟨v8', _, q8, f8⟩ := hO3.at_ 8 (by omega)
  obtain ⟨v9', _, q9, f9⟩ := hO3.at_ 9 (by omega)
  obtain ⟨v10', _, q10, f10⟩ := hO3.at_ 10 (by omega)
  have hgN : g < N := by rw [← HN.out]; exact HG.out.lt
  have gn : ¬ g = N := by omega
  have gn' : ¬ N = g := by omega
  simp only [Nat.zero_add] at q8 q9 q10 f8 f9 f10
  have hs := ((hO3.set 8 (by omega) (.int .u8 ct.toNat)).set 9 (by omega) (.int .u8 maj.toNat)).set 10 (by omega) (.int .u8 mn.toNat)
  simp only [Nat.zero_add] at hs
  have hB4 : Below N w (((w3.setCell ⟨N, 8, none⟩ (.int .u8 ct.toNat)).setCell ⟨N, 9, none⟩ (.int .u8 maj.toNat)).setCell ⟨N, 10, none⟩ (.int .u8 mn.toNat)) := ((HB3.out.setCell (p := ⟨N, 8, none⟩) (Nat.le_refl _) _).setCell (p := ⟨N, 9, none⟩) (Nat.le_refl _) _).setCell (p := ⟨N, 10, none⟩) (Nat.le_refl _) _
  have HS4 := Lib.hid hs
  have HB4 := Lib.hid hB4
  have HZ4 : Hid (N ≤ w3.heap.size) := Lib.hid (Nat.le_trans HS2.out hg3.size)
  clear hs hB4 hO3 hg3 HOD2 HBD2 HS2 c4 hk3 HO3 HB3
  go_wp2_with fail
  have HOD4 : Hid (Own (((w3.setCell ⟨N, 8, none⟩ (.int .u8 ct.toNat)).setCell ⟨N, 9, none⟩ (.int .u8 maj.toNat)).setCell ⟨N, 10, none⟩ (.int .u8 mn.toNat)).drew N 1 (some ⟨N, 0, none⟩) 13 13 _) := HS4
  have HBD4 : Hid (Below N w (((w3.setCell ⟨N, 8, none⟩ (.int .u8 ct.toNat)).setCell ⟨N, 9, none⟩ (.int .u8 maj.toNat)).setCell ⟨N, 10, none⟩ (.int .u8 mn.toNat)).drew) := Lib.hid HB4.out.drew
  have HZD4 : Hid (N ≤ (((w3.setCell ⟨N, 8, none⟩ (.int .u8 ct.toNat)).setCell ⟨N, 9, none⟩ (.int .u8 maj.toNat)).setCell ⟨N, 10, none⟩ (.int .u8 mn.toNat)).drew.heap.size) := Lib.hid (by rw [World.size_drew, World.size_setCell, World.size_setCell, World.size_setCell]; exact HZ4.out)
  clear HS4 HB4 HZ4 k0 k2 k3 q8 q9 q10 f8 f9 f10
  generalize ((w3.setCell ⟨N, 8, none⟩ (.int .u8 ct.toNat)).setCell ⟨N, 9, none⟩ (.int .u8 maj.toNat)).setCell ⟨N, 10, none⟩ (.int .u8 mn.toNat) = w4 at *
  refine wp_region_still_tail 4 (by kernel_rfl) (by kernel_rfl) ?_
  simp only [List.take_succ_cons, List.take_zero, List.drop_succ_cons, List.drop_zero]
  change wpStill _ _ (World.drew w4) (fun a => wpList _ _ _ _ a (World.drew w4)) _ _
  generalize World.drew w4 = wf at *
  repeat still_step
  refine wpStill_nil ?_
  go_wp2_with fail
  refine (put16_any N N 0 13 13 11 11 2 2 _ m wf HOD4.out (by omega) (by omega) (by omega)).mono ?_
  rintro e w5 ⟨rfl, hO5, hg5⟩
  have HR5 : Hid (Rd w5 (some ⟨N, 0, none⟩) (vs (add13 ct maj mn ep sq m))) := Lib.hid (by
    have h := hO5.rd
    simpa [v8, add13, be, vs] using h)
  have HB5 : Hid (Below w.heap.size w w5) := Lib.hid (by rw [HN.out]; exact below_of_grown HBD4.out hg5 HZD4.out (Nat.le_refl _))
  clear hO5 hg5
  go_wp2_with fail
  go_ret
  exact ⟨_, rfl, HR5.out, HB5.out⟩
theorem genA_any (g : Nat) (ct maj mn : UInt8) (ep sq cl n c m : Nat) (A : Option Addr) (hsq : sq < 281474976710656) (hm : m < 65536) (w : World) (hg : Blk w g 53 (hwRow ct maj mn ep sq cl A n c)) :
    Calls Tryd.prog 55 #[.pointer (some ⟨g, 0, none⟩), .int .i64 (m : Nat)] w fun e w' => ∃ A', e = .returned (.slice A' 13 13) ∧ Rd w' A' (vs (add13 ct maj mn ep sq m)) ∧ Below w.heap.size w w' :=
  genA_x g ct maj mn ep sq cl n c m (m : Nat) A hsq (by rw [IntKind.wrap_u16]; omega) w hg
end Go.Proofs.YtpedkkmoplbdhaaDoor
