/- Walks: a signature scheme, written by the library. -/
import Derived.Test.YtmappdbodnlepaaDoorPairs3
namespace Go.Proofs.YtmappdbodnlepaaDoor
open Go.RowKit Go.Cv
set_option maxRecDepth 100000
set_option linter.unusedVariables false
theorem mPss_yes (s : Nat) (hs : s = 2052 ∨ s = 2053 ∨ s = 2054 ∨ s = 2057 ∨ s = 2058 ∨ s = 2059) (w : World) :
    Calls Tryd.prog 67 #[.int .u16 s] w fun e w' => e = .returned (.bool true) ∧ w = w' := by
  rcases hs with rfl | rfl | rfl | rfl | rfl | rfl
  all_goals
    go_enter Tryd.func67, Tryd.ntmps67
    go_wp2_with fail
    go_ret
    exact ⟨rfl, rfl⟩
theorem mPss_no (s : Nat) (hs : s = 1 ∨ s = 3 ∨ s = 7) (w : World) :
    Calls Tryd.prog 67 #[.int .u16 s] w fun e w' => e = .returned (.bool false) ∧ w = w' := by
  rcases hs with rfl | rfl | rfl
  all_goals
    go_enter Tryd.func67, Tryd.ntmps67
    go_wp2_with fail
    go_ret
    exact ⟨rfl, rfl⟩
theorem two_cells (v0 a b : Value) : ((List.replicate 2 v0).set 0 a).set 1 b = [a, b] := rfl
set_option maxHeartbeats 1000000 in
theorem algM_plain (a h s : Nat) (h8 : h ≤ 8) (hs : s = 1 ∨ s = 3 ∨ s = 7) (w : World) (hk : Blk w a 106 #[.int .u16 (h : Int), .int .u16 (s : Int)]) :
    Calls Tryd.prog 54 #[.pointer (some ⟨a, 0, none⟩)] w fun e w' => e = .returned (.slice (some ⟨w.heap.size, 0, none⟩) 2 2) ∧ Own w' w.heap.size 1 (some ⟨w.heap.size, 0, none⟩) 2 2 [.int .u8 (h : Int), .int .u8 (s : Int)] ∧ Below w.heap.size w w' := by
  have s7 : s ≤ 7 := by omega
  have b1 : IntKind.u8.wrap (h : Int) = (h : Int) := by rw [IntKind.wrap_u8]; omega
  have b2 : IntKind.u8.wrap (s : Int) = (s : Int) := by rw [IntKind.wrap_u8]; omega
  have b1' : (h : Int) % 256 = (h : Int) := by omega
  have b2' : (s : Int) % 256 = (s : Int) := by omega
  have HP := Lib.hid (fun w => mPss_no s hs w)
  have HK := Lib.hid hk
  have hps := hk.lt
  clear hk hs s7 h8
  go_enter Tryd.func54, Tryd.ntmps54
  go_wp2_with fail
  refine upon_make 39 5 (.int .u8 0) 1 Tryd.underlying39 u8info rfl 2 2 rfl rfl (Nat.le_refl _) (by omega) (by simp only [maxLen]; omega) ?_
  intro w1 hown hb1 hsz1
  have hk1 := HK.out.keep hb1
  have k0 := hk1.cell 0
  have k1 := hk1.cell 1
  simp at k0 k1
  obtain ⟨v0, hv0, hc0, hf0⟩ := hown.at_ 0 (by omega)
  obtain ⟨v1, hv1, hc1, hf1⟩ := hown.at_ 1 (by omega)
  have hs0 := (hown.set 0 (by omega) (.int .u8 (h : Int))).set 1 (by omega) (.int .u8 (s : Int))
  rw [two_cells] at hs0
  simp only [Nat.zero_add] at hc0 hf0 hc1 hf1 hs0
  have hne : ¬ a = w.heap.size := Nat.ne_of_lt hps
  have hne' : ¬ w.heap.size = a := fun e => hne e.symm
  have HB1 := Lib.hid hb1
  have HS0 := Lib.hid hs0
  clear hown hb1 hk1 hv0 hv1 hs0 hsz1
  go_wp2_with fail
  refine (HP.out _).mono ?_
  rintro e w2 ⟨rfl, rfl⟩
  go_wp2_with fail
  go_ret
  exact ⟨rfl, HS0.out, (HB1.out.setCell (p := ⟨w.heap.size, 0, none⟩) (Nat.le_refl _) _).setCell (p := ⟨w.heap.size, 1, none⟩) (Nat.le_refl _) _⟩
set_option maxHeartbeats 2000000 in
theorem algM_pss (a h s : Nat) (hs : s = 2052 ∨ s = 2053 ∨ s = 2054 ∨ s = 2057 ∨ s = 2058 ∨ s = 2059) (w : World) (hk : Blk w a 106 #[.int .u16 (h : Int), .int .u16 (s : Int)]) :
    Calls Tryd.prog 54 #[.pointer (some ⟨a, 0, none⟩)] w fun e w' => e = .returned (.slice (some ⟨w.heap.size, 0, none⟩) 2 2) ∧ Own w' w.heap.size 1 (some ⟨w.heap.size, 0, none⟩) 2 2 [.int .u8 ((s / 256 : Nat) : Int), .int .u8 ((s % 256 : Nat) : Int)] ∧ Below w.heap.size w w' := by
  have HP := Lib.hid (fun w => mPss_yes s hs w)
  have HK := Lib.hid hk
  have hps := hk.lt
  have e8 : s / 256 = 8 := by omega
  obtain ⟨r, hr⟩ : ∃ r, s % 256 = r := ⟨_, rfl⟩
  have e1 : (s : Int) / 256 = 8 := by omega
  have e2 : bits BinOp.and IntKind.u16 (s : Int) 255 = (r : Int) := by
    rcases hs with rfl | rfl | rfl | rfl | rfl | rfl <;> (subst hr; decide)
  have e3 : (s : Int) % 256 = (r : Int) := by omega
  have b2 : IntKind.u8.wrap (r : Int) = (r : Int) := by rw [IntKind.wrap_u8]; omega
  have b2' : (r : Int) % 256 = (r : Int) := by omega
  rw [e8, hr]
  clear hk hs hr e8
  go_enter Tryd.func54, Tryd.ntmps54
  go_wp2_with fail
  refine upon_make 39 5 (.int .u8 0) 1 Tryd.underlying39 u8info rfl 2 2 rfl rfl (Nat.le_refl _) (by omega) (by simp only [maxLen]; omega) ?_
  intro w1 hown hb1 hsz1
  have hk1 := HK.out.keep hb1
  have k0 := hk1.cell 0
  have k1 := hk1.cell 1
  simp at k0 k1
  obtain ⟨v0, hv0, hc0, hf0⟩ := hown.at_ 0 (by omega)
  obtain ⟨v1, hv1, hc1, hf1⟩ := hown.at_ 1 (by omega)
  have hs0 := (hown.set 0 (by omega) (.int .u8 8)).set 1 (by omega) (.int .u8 (r : Int))
  rw [two_cells] at hs0
  simp only [Nat.zero_add] at hc0 hf0 hc1 hf1 hs0
  have hne : ¬ a = w.heap.size := Nat.ne_of_lt hps
  have hne' : ¬ w.heap.size = a := fun e => hne e.symm
  have HB1 := Lib.hid hb1
  have HS0 := Lib.hid hs0
  clear hown hb1 hk1 hv0 hv1 hs0 hsz1
  go_wp2_with fail
  refine (HP.out _).mono ?_
  rintro e w2 ⟨rfl, rfl⟩
  go_wp2_with fail
  go_ret
  exact ⟨rfl, HS0.out, (HB1.out.setCell (p := ⟨w.heap.size, 0, none⟩) (Nat.le_refl _) _).setCell (p := ⟨w.heap.size, 1, none⟩) (Nat.le_refl _) _⟩
theorem algM_any (a h s : Nat) (ok : OkP h s) (w : World) (hk : Blk w a 106 #[.int .u16 (h : Int), .int .u16 (s : Int)]) :
    Calls Tryd.prog 54 #[.pointer (some ⟨a, 0, none⟩)] w fun e w' => e = .returned (.slice (some ⟨w.heap.size, 0, none⟩) 2 2) ∧ Own w' w.heap.size 1 (some ⟨w.heap.size, 0, none⟩) 2 2 (vs (be 2 (code h s))) ∧ Below w.heap.size w w' := by
  have b2 : ∀ m : Nat, vs (be 2 m) = [.int .u8 ((m : Int) / 256 % 256), .int .u8 ((m : Int) % 256)] := by intro m; simp [be, vs]
  rcases ok.split with ⟨hs, h2, h8⟩ | ⟨hs, _⟩
  · have e : vs (be 2 (code h s)) = [.int .u8 (h : Int), .int .u8 (s : Int)] := by
      have e1 : code h s = h * 256 + s := by unfold code; rw [if_neg (by omega)]
      rw [e1, b2]
      have e2 : (((h * 256 + s : Nat) : Int) / 256 % 256) = h := by omega
      have e3 : (((h * 256 + s : Nat) : Int) % 256) = s := by omega
      rw [e2, e3]
    rw [e]
    exact algM_plain a h s h8 hs w hk
  · have e : vs (be 2 (code h s)) = [.int .u8 ((s / 256 : Nat) : Int), .int .u8 ((s % 256 : Nat) : Int)] := by
      have e1 : code h s = s := by unfold code; rw [if_pos (by omega)]
      rw [e1, b2]
      have e2 : ((s : Int) / 256 % 256) = ((s / 256 : Nat) : Int) := by omega
      have e3 : ((s : Int) % 256) = ((s % 256 : Nat) : Int) := by omega
      rw [e2, e3]
    rw [e]
    exact algM_pss a h s hs w hk
end Go.Proofs.YtmappdbodnlepaaDoor
