/- Walks: a handshake header, written. -/
import Derived.Test.YtkjpkenhpmjikaaDoorHand
namespace Go.Proofs.YtkjpkenhpmjikaaDoor
open Go.RowKit Go.Cv
set_option maxRecDepth 100000
set_option linter.unusedVariables false
set_option maxHeartbeats 1000000 in
theorem handMarshal_ok (g : Nat) (a0 n1 n2 n3 n4 : Nat) (ha : (a0 : Int) < 256) (w : World) (hk : Blk w g 150 #[.int .u8 a0, .int .u32 n1, .int .u16 n2, .int .u32 n3, .int .u32 n4]) :
    Calls Tryd.prog 81 #[.pointer (some ⟨g, 0, none⟩)] w fun e w' =>
      ∃ A' c', e = .returned (.tuple #[.slice A' 12 c', .nilIface]) ∧ Below w.heap.size w w' ∧
        Rd w' A' [.int .u8 a0, .int .u8 ((n1 : Int) / 65536 % 256), .int .u8 ((n1 : Int) / 256 % 256), .int .u8 ((n1 : Int) % 256), .int .u8 ((n2 : Int) / 256 % 256), .int .u8 ((n2 : Int) % 256), .int .u8 ((n3 : Int) / 65536 % 256), .int .u8 ((n3 : Int) / 256 % 256), .int .u8 ((n3 : Int) % 256), .int .u8 ((n4 : Int) / 65536 % 256), .int .u8 ((n4 : Int) / 256 % 256), .int .u8 ((n4 : Int) % 256)] := by
  have hgs := hk.lt
  go_enter Tryd.func81, Tryd.ntmps81
  go_wp2_with fail
  refine upon_make 54 5 (.int .u8 0) 1 Tryd.underlying54 u8info rfl 12 12 rfl rfl (Nat.le_refl _) (by omega) (by simp only [maxLen]; omega) ?_
  intro w1 hown hb hsz
  have hk1 := hk.keep hb
  have c0 := hk1.cell 0
  simp at c0
  obtain ⟨v0, _, hc0, hf0⟩ := hown.at_ 0 (by omega)
  simp at hc0 hf0
  have HO := Lib.hid hown
  have HB := Lib.hid hb
  have HK := Lib.hid hk1
  clear hown hb hk1 hk
  go_wp2_with fail
  have hO2 := HO.out.set 0 (by omega) (.int .u8 a0)
  have hB2 := HB.out.setCell (p := ⟨w.heap.size, 0, none⟩) (Nat.le_refl _) (.int .u8 a0)
  have hK2 := HK.out.grown (grown_set w1 w.heap.size 0 (.int .u8 a0)) (by simp; omega)
  simp at hO2
  clear HO HB HK c0 hc0 hf0
  generalize hW : w1.setCell ⟨w.heap.size, 0, none⟩ (.int .u8 a0) = w2 at *
  clear hW
  have d1 : w2.drew.cell? ⟨g, 1, none⟩ = some (.int .u32 n1) := by have := hK2.cell 1; simpa using this
  have HO2 : Hid (Own w2.drew w.heap.size 1 (some ⟨w.heap.size, 0, none⟩) 12 12 _) := hO2
  have HB2 : Hid (Below w.heap.size w w2.drew) := hB2.drew
  have HK2 : Hid (Blk w2.drew g 150 _) := hK2
  clear hO2 hB2 hK2
  refine wp_region_still_tail 6 (by kernel_rfl) (by kernel_rfl) ?_
  simp only [List.take_succ_cons, List.take_zero, List.drop_succ_cons, List.drop_zero]
  change wpStill _ _ (World.drew w2) (fun a => wpList _ _ _ _ a (World.drew w2)) _ _
  generalize World.drew w2 = w3 at *
  repeat still_step
  refine wpStill_nil ?_
  go_wp2_with fail
  refine (u24_put w.heap.size w.heap.size 1 1 11 12 12 11 n1 _ w3 HO2.out (by omega) (by omega) (by omega)).mono ?_
  rintro e w4 ⟨rfl, hO4, hg4⟩
  have hB4 := HB2.out.grown hg4 HB2.out.size (fun k hk => by simp at hk; omega)
  have hK4 := HK2.out.grown hg4 (by simp; omega)
  simp at hO4
  clear d1 HO2 HB2 HK2 hg4
  go_wp2_with fail
  have d2 : w4.drew.cell? ⟨g, 2, none⟩ = some (.int .u16 n2) := by have := hK4.cell 2; simpa using this
  have HO4 : Hid (Own w4.drew w.heap.size 1 (some ⟨w.heap.size, 0, none⟩) 12 12 _) := hO4
  have HB4 : Hid (Below w.heap.size w w4.drew) := hB4.drew
  have HK4 : Hid (Blk w4.drew g 150 _) := hK4
  clear hO4 hB4 hK4
  refine wp_region_still_tail 7 (by kernel_rfl) (by kernel_rfl) ?_
  simp only [List.take_succ_cons, List.take_zero, List.drop_succ_cons, List.drop_zero]
  change wpStill _ _ (World.drew w4) (fun a => wpList _ _ _ _ a (World.drew w4)) _ _
  generalize World.drew w4 = w5 at *
  repeat still_step
  refine wpStill_nil ?_
  go_wp2_with fail
  refine (put16_any w.heap.size w.heap.size 0 12 12 4 4 8 8 _ n2 w5 HO4.out (by omega) (by omega) (by omega)).mono ?_
  rintro e w6 ⟨rfl, hO6, hg6⟩
  have hB6 := HB4.out.grown hg6 HB4.out.size (fun k hk => by simp at hk; omega)
  have hK6 := HK4.out.grown hg6 (by simp; omega)
  simp at hO6
  clear d2 HO4 HB4 HK4 hg6
  go_wp2_with fail
  have d3 : w6.drew.cell? ⟨g, 3, none⟩ = some (.int .u32 n3) := by have := hK6.cell 3; simpa using this
  have HO6 : Hid (Own w6.drew w.heap.size 1 (some ⟨w.heap.size, 0, none⟩) 12 12 _) := hO6
  have HB6 : Hid (Below w.heap.size w w6.drew) := hB6.drew
  have HK6 : Hid (Blk w6.drew g 150 _) := hK6
  clear hO6 hB6 hK6
  refine wp_region_still_tail 6 (by kernel_rfl) (by kernel_rfl) ?_
  simp only [List.take_succ_cons, List.take_zero, List.drop_succ_cons, List.drop_zero]
  change wpStill _ _ (World.drew w6) (fun a => wpList _ _ _ _ a (World.drew w6)) _ _
  generalize World.drew w6 = w7 at *
  repeat still_step
  refine wpStill_nil ?_
  go_wp2_with fail
  refine (u24_put w.heap.size w.heap.size 6 6 6 12 12 6 n3 _ w7 HO6.out (by omega) (by omega) (by omega)).mono ?_
  rintro e w8 ⟨rfl, hO8, hg8⟩
  have hB8 := HB6.out.grown hg8 HB6.out.size (fun k hk => by simp at hk; omega)
  have hK8 := HK6.out.grown hg8 (by simp; omega)
  simp at hO8
  clear d3 HO6 HB6 HK6 hg8
  go_wp2_with fail
  have d4 : w8.drew.cell? ⟨g, 4, none⟩ = some (.int .u32 n4) := by have := hK8.cell 4; simpa using this
  have HO8 : Hid (Own w8.drew w.heap.size 1 (some ⟨w.heap.size, 0, none⟩) 12 12 _) := hO8
  have HB8 : Hid (Below w.heap.size w w8.drew) := hB8.drew
  clear hO8 hB8 hK8
  refine wp_region_still_tail 6 (by kernel_rfl) (by kernel_rfl) ?_
  simp only [List.take_succ_cons, List.take_zero, List.drop_succ_cons, List.drop_zero]
  change wpStill _ _ (World.drew w8) (fun a => wpList _ _ _ _ a (World.drew w8)) _ _
  generalize World.drew w8 = w9 at *
  repeat still_step
  refine wpStill_nil ?_
  go_wp2_with fail
  refine (u24_put w.heap.size w.heap.size 9 9 3 12 12 3 n4 _ w9 HO8.out (by omega) (by omega) (by omega)).mono ?_
  rintro e w10 ⟨rfl, hO10, hg10⟩
  have hB10 := HB8.out.grown hg10 HB8.out.size (fun k hk => by simp at hk; omega)
  have HO10 := Lib.hid hO10
  clear d4 HO8 HB8 hg10 hO10
  go_wp2_with fail
  go_ret2
  refine ⟨_, _, rfl, hB10, ?_⟩
  have h := HO10.out.rd
  simpa [List.replicate] using h
end Go.Proofs.YtkjpkenhpmjikaaDoor
