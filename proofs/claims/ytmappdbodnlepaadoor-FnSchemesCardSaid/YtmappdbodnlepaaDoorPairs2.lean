/- Walks: lists of signature schemes as pairs. -/
import Derived.Test.YtmappdbodnlepaaDoorPairs
namespace Go.Proofs.YtmappdbodnlepaaDoor
open Go.RowKit Go.Cv
set_option maxRecDepth 100000
set_option linter.unusedVariables false
def SchPost (h s : Nat) (w : World) (e : Ending) (w' : World) : Prop := ∃ d : Bool, e = .returned (.bool d) ∧ (d = true → OkP h s) ∧ Below w.heap.size w w'
theorem sch_a1 (h : Nat) (h2 : h < 2) (w : World) :
    Calls Tryd.prog 12 #[.agg #[.int .u16 (h : Nat), .int .u16 1]] w (SchPost h 1 w) := by
  have t0 : decide ((2 : Int) ≤ h) = false := by simp; omega
  have t1 : ((h : Int) == 8) = false := by simp; omega
  clear h2
  go_enter Tryd.func12, Tryd.ntmps12
  go_wp2_with fail
  go_quiet ((first | (go_at_call 17; exact Calls.quiet_of_same (pss_no 1 (by omega) _))))
  go_wp2_with fail
  go_ret
  exact ⟨false, rfl, by simp, (below_alloc w _).trans ⟨rfl, rfl, rfl, Nat.le_refl _, fun _ _ => rfl⟩⟩
theorem sch_a3 (h : Nat) (h2 : h < 2) (w : World) :
    Calls Tryd.prog 12 #[.agg #[.int .u16 (h : Nat), .int .u16 3]] w (SchPost h 3 w) := by
  have t0 : decide ((2 : Int) ≤ h) = false := by simp; omega
  have t1 : ((h : Int) == 8) = false := by simp; omega
  clear h2
  go_enter Tryd.func12, Tryd.ntmps12
  go_wp2_with fail
  go_quiet ((first | (go_at_call 17; exact Calls.quiet_of_same (pss_no 3 (by omega) _))))
  go_wp2_with fail
  go_ret
  exact ⟨false, rfl, by simp, (below_alloc w _).trans ⟨rfl, rfl, rfl, Nat.le_refl _, fun _ _ => rfl⟩⟩
theorem sch_a7 (h : Nat) (h2 : h < 2) (w : World) :
    Calls Tryd.prog 12 #[.agg #[.int .u16 (h : Nat), .int .u16 7]] w (SchPost h 7 w) := by
  have t0 : decide ((2 : Int) ≤ h) = false := by simp; omega
  have t1 : ((h : Int) == 8) = false := by simp; omega
  clear h2
  go_enter Tryd.func12, Tryd.ntmps12
  go_wp2_with fail
  go_quiet ((first | (go_at_call 17; exact Calls.quiet_of_same (pss_no 7 (by omega) _))))
  go_wp2_with fail
  go_ret
  exact ⟨false, rfl, by simp, (below_alloc w _).trans ⟨rfl, rfl, rfl, Nat.le_refl _, fun _ _ => rfl⟩⟩
theorem sch_ag (h : Nat) (h2 : h < 2) (s : Nat) (s1 : s ≠ 1) (s3 : s ≠ 3) (s7 : s ≠ 7) (hp : s < 2052 ∨ (2054 < s ∧ s < 2057) ∨ 2059 < s) (w : World) :
    Calls Tryd.prog 12 #[.agg #[.int .u16 (h : Nat), .int .u16 s]] w (SchPost h s w) := by
  have t0 : decide ((2 : Int) ≤ h) = false := by simp; omega
  have t1 : ((h : Int) == 8) = false := by simp; omega
  have u1 : ((s : Int) == 1) = false := by simp; omega
  have u3 : ((s : Int) == 3) = false := by simp; omega
  have u7 : ((s : Int) == 7) = false := by simp; omega
  have HP := Lib.hid hp
  clear h2
  clear s1 s3 s7 hp
  go_enter Tryd.func12, Tryd.ntmps12
  go_wp2_with fail
  go_quiet ((first | (go_at_call 17; exact Calls.quiet_of_same (pss_no s HP.out _))))
  go_wp2_with fail
  go_ret
  exact ⟨false, rfl, by simp, (below_alloc w _).trans ⟨rfl, rfl, rfl, Nat.le_refl _, fun _ _ => rfl⟩⟩
set_option maxHeartbeats 2000000 in
theorem sch_ap0 (h : Nat) (h2 : h < 2) (s : Nat) (hp : s = 2052 ∨ s = 2053 ∨ s = 2054 ∨ s = 2057 ∨ s = 2058 ∨ s = 2059) (he : h ≠ pssHash s) (w : World) :
    Calls Tryd.prog 12 #[.agg #[.int .u16 (h : Nat), .int .u16 s]] w (SchPost h s w) := by
  have t0 : decide ((2 : Int) ≤ h) = false := by simp; omega
  have t1 : ((h : Int) == 8) = false := by simp; omega
  have te : (((h : Int) : Int) == (pssHash s : Nat)) = false := by simp; omega
  clear h2
  have u1 : ((s : Int) == 1) = false := by simp; omega
  have u3 : ((s : Int) == 3) = false := by simp; omega
  have u7 : ((s : Int) == 7) = false := by simp; omega
  have HP := Lib.hid hp
  generalize hg : pssHash s = q at *
  have HQ := Lib.hid hg
  clear he hp hg
  have hC : Hid (∀ w, Calls Tryd.prog 30 #[.int .u16 s] w fun e w' => e = .returned (.int .u16 (q : Nat)) ∧ w' = w) := fun w => by rw [← HQ.out]; exact pairHash_ok s HP.out w
  go_enter Tryd.func12, Tryd.ntmps12
  go_wp2_with fail
  go_quiet ((first | (go_at_call 17; exact Calls.quiet_of_same (pss_yes s HP.out _)) | (go_at_call 30; exact Calls.quiet_of_same (hC.out _))))
  go_wp2_with fail
  go_ret
  exact ⟨false, rfl, by simp, (below_alloc w _).trans ⟨rfl, rfl, rfl, Nat.le_refl _, fun _ _ => rfl⟩⟩
theorem sch_b1 (h : Nat) (h2 : 2 ≤ h) (h3 : h ≤ 6) (w : World) :
    Calls Tryd.prog 12 #[.agg #[.int .u16 (h : Nat), .int .u16 1]] w (SchPost h 1 w) := by
  have hok : Hid (OkP h 1) := Lib.hid (by
    obtain rfl | rfl | rfl | rfl | rfl : h = 2 ∨ h = 3 ∨ h = 4 ∨ h = 5 ∨ h = 6 := by omega
    all_goals (unfold OkP; decide))
  have t0 : decide ((2 : Int) ≤ h) = true := by simp; omega
  have t1 : decide ((h : Int) ≤ 6) = true := by simp; omega
  have t2 : ((h : Int) == 8) = false := by simp; omega
  clear h2 h3
  go_enter Tryd.func12, Tryd.ntmps12
  go_wp2_with fail
  go_ret
  exact ⟨true, rfl, fun _ => hok.out, below_alloc _ _⟩
theorem sch_b3 (h : Nat) (h2 : 2 ≤ h) (h3 : h ≤ 6) (w : World) :
    Calls Tryd.prog 12 #[.agg #[.int .u16 (h : Nat), .int .u16 3]] w (SchPost h 3 w) := by
  have hok : Hid (OkP h 3) := Lib.hid (by
    obtain rfl | rfl | rfl | rfl | rfl : h = 2 ∨ h = 3 ∨ h = 4 ∨ h = 5 ∨ h = 6 := by omega
    all_goals (unfold OkP; decide))
  have t0 : decide ((2 : Int) ≤ h) = true := by simp; omega
  have t1 : decide ((h : Int) ≤ 6) = true := by simp; omega
  have t2 : ((h : Int) == 8) = false := by simp; omega
  clear h2 h3
  go_enter Tryd.func12, Tryd.ntmps12
  go_wp2_with fail
  go_ret
  exact ⟨true, rfl, fun _ => hok.out, below_alloc _ _⟩
theorem sch_b7 (h : Nat) (h2 : 2 ≤ h) (h3 : h ≤ 6) (w : World) :
    Calls Tryd.prog 12 #[.agg #[.int .u16 (h : Nat), .int .u16 7]] w (SchPost h 7 w) := by
  have t0 : decide ((2 : Int) ≤ h) = true := by simp; omega
  have t1 : decide ((h : Int) ≤ 6) = true := by simp; omega
  have t2 : ((h : Int) == 8) = false := by simp; omega
  clear h2 h3
  go_enter Tryd.func12, Tryd.ntmps12
  go_wp2_with fail
  go_quiet ((first | (go_at_call 17; exact Calls.quiet_of_same (pss_no 7 (by omega) _))))
  go_wp2_with fail
  go_ret
  exact ⟨false, rfl, by simp, (below_alloc w _).trans ⟨rfl, rfl, rfl, Nat.le_refl _, fun _ _ => rfl⟩⟩
theorem sch_bg (h : Nat) (h2 : 2 ≤ h) (h3 : h ≤ 6) (s : Nat) (s1 : s ≠ 1) (s3 : s ≠ 3) (s7 : s ≠ 7) (hp : s < 2052 ∨ (2054 < s ∧ s < 2057) ∨ 2059 < s) (w : World) :
    Calls Tryd.prog 12 #[.agg #[.int .u16 (h : Nat), .int .u16 s]] w (SchPost h s w) := by
  have t0 : decide ((2 : Int) ≤ h) = true := by simp; omega
  have t1 : decide ((h : Int) ≤ 6) = true := by simp; omega
  have t2 : ((h : Int) == 8) = false := by simp; omega
  have u1 : ((s : Int) == 1) = false := by simp; omega
  have u3 : ((s : Int) == 3) = false := by simp; omega
  have u7 : ((s : Int) == 7) = false := by simp; omega
  have HP := Lib.hid hp
  clear h2 h3
  clear s1 s3 s7 hp
  go_enter Tryd.func12, Tryd.ntmps12
  go_wp2_with fail
  go_quiet ((first | (go_at_call 17; exact Calls.quiet_of_same (pss_no s HP.out _))))
  go_wp2_with fail
  go_ret
  exact ⟨false, rfl, by simp, (below_alloc w _).trans ⟨rfl, rfl, rfl, Nat.le_refl _, fun _ _ => rfl⟩⟩
set_option maxHeartbeats 2000000 in
theorem sch_bp1 (h : Nat) (h2 : 2 ≤ h) (h3 : h ≤ 6) (s : Nat) (hp : s = 2052 ∨ s = 2053 ∨ s = 2054 ∨ s = 2057 ∨ s = 2058 ∨ s = 2059) (he : h = pssHash s) (w : World) :
    Calls Tryd.prog 12 #[.agg #[.int .u16 (h : Nat), .int .u16 s]] w (SchPost h s w) := by
  have t0 : decide ((2 : Int) ≤ h) = true := by simp; omega
  have t1 : decide ((h : Int) ≤ 6) = true := by simp; omega
  have t2 : ((h : Int) == 8) = false := by simp; omega
  have te : ((h : Int) == (pssHash s : Nat)) = true := by simp; omega
  have hok : Hid (OkP h s) := Lib.hid (by subst he; rcases hp with rfl | rfl | rfl | rfl | rfl | rfl <;> (unfold OkP; decide))
  clear h2 h3
  have u1 : ((s : Int) == 1) = false := by simp; omega
  have u3 : ((s : Int) == 3) = false := by simp; omega
  have u7 : ((s : Int) == 7) = false := by simp; omega
  have HP := Lib.hid hp
  generalize hg : pssHash s = q at *
  have HQ := Lib.hid hg
  clear he hp hg
  have hC : Hid (∀ w, Calls Tryd.prog 30 #[.int .u16 s] w fun e w' => e = .returned (.int .u16 (q : Nat)) ∧ w' = w) := fun w => by rw [← HQ.out]; exact pairHash_ok s HP.out w
  go_enter Tryd.func12, Tryd.ntmps12
  go_wp2_with fail
  go_quiet ((first | (go_at_call 17; exact Calls.quiet_of_same (pss_yes s HP.out _)) | (go_at_call 30; exact Calls.quiet_of_same (hC.out _))))
  go_wp2_with fail
  go_ret
  exact ⟨true, rfl, fun _ => hok.out, (below_alloc w _).trans ⟨rfl, rfl, rfl, Nat.le_refl _, fun _ _ => rfl⟩⟩
set_option maxHeartbeats 2000000 in
theorem sch_bp0 (h : Nat) (h2 : 2 ≤ h) (h3 : h ≤ 6) (s : Nat) (hp : s = 2052 ∨ s = 2053 ∨ s = 2054 ∨ s = 2057 ∨ s = 2058 ∨ s = 2059) (he : h ≠ pssHash s) (w : World) :
    Calls Tryd.prog 12 #[.agg #[.int .u16 (h : Nat), .int .u16 s]] w (SchPost h s w) := by
  have t0 : decide ((2 : Int) ≤ h) = true := by simp; omega
  have t1 : decide ((h : Int) ≤ 6) = true := by simp; omega
  have t2 : ((h : Int) == 8) = false := by simp; omega
  have te : (((h : Int) : Int) == (pssHash s : Nat)) = false := by simp; omega
  clear h2 h3
  have u1 : ((s : Int) == 1) = false := by simp; omega
  have u3 : ((s : Int) == 3) = false := by simp; omega
  have u7 : ((s : Int) == 7) = false := by simp; omega
  have HP := Lib.hid hp
  generalize hg : pssHash s = q at *
  have HQ := Lib.hid hg
  clear he hp hg
  have hC : Hid (∀ w, Calls Tryd.prog 30 #[.int .u16 s] w fun e w' => e = .returned (.int .u16 (q : Nat)) ∧ w' = w) := fun w => by rw [← HQ.out]; exact pairHash_ok s HP.out w
  go_enter Tryd.func12, Tryd.ntmps12
  go_wp2_with fail
  go_quiet ((first | (go_at_call 17; exact Calls.quiet_of_same (pss_yes s HP.out _)) | (go_at_call 30; exact Calls.quiet_of_same (hC.out _))))
  go_wp2_with fail
  go_ret
  exact ⟨false, rfl, by simp, (below_alloc w _).trans ⟨rfl, rfl, rfl, Nat.le_refl _, fun _ _ => rfl⟩⟩
theorem sch_c1 (h : Nat) (h2 : 6 < h) (h3 : h ≠ 8) (w : World) :
    Calls Tryd.prog 12 #[.agg #[.int .u16 (h : Nat), .int .u16 1]] w (SchPost h 1 w) := by
  have t0 : decide ((2 : Int) ≤ h) = true := by simp; omega
  have t1 : decide ((h : Int) ≤ 6) = false := by simp; omega
  have t2 : ((h : Int) == 8) = false := by simp; omega
  clear h2 h3
  go_enter Tryd.func12, Tryd.ntmps12
  go_wp2_with fail
  go_quiet ((first | (go_at_call 17; exact Calls.quiet_of_same (pss_no 1 (by omega) _))))
  go_wp2_with fail
  go_ret
  exact ⟨false, rfl, by simp, (below_alloc w _).trans ⟨rfl, rfl, rfl, Nat.le_refl _, fun _ _ => rfl⟩⟩
theorem sch_c3 (h : Nat) (h2 : 6 < h) (h3 : h ≠ 8) (w : World) :
    Calls Tryd.prog 12 #[.agg #[.int .u16 (h : Nat), .int .u16 3]] w (SchPost h 3 w) := by
  have t0 : decide ((2 : Int) ≤ h) = true := by simp; omega
  have t1 : decide ((h : Int) ≤ 6) = false := by simp; omega
  have t2 : ((h : Int) == 8) = false := by simp; omega
  clear h2 h3
  go_enter Tryd.func12, Tryd.ntmps12
  go_wp2_with fail
  go_quiet ((first | (go_at_call 17; exact Calls.quiet_of_same (pss_no 3 (by omega) _))))
  go_wp2_with fail
  go_ret
  exact ⟨false, rfl, by simp, (below_alloc w _).trans ⟨rfl, rfl, rfl, Nat.le_refl _, fun _ _ => rfl⟩⟩
theorem sch_c7 (h : Nat) (h2 : 6 < h) (h3 : h ≠ 8) (w : World) :
    Calls Tryd.prog 12 #[.agg #[.int .u16 (h : Nat), .int .u16 7]] w (SchPost h 7 w) := by
  have t0 : decide ((2 : Int) ≤ h) = true := by simp; omega
  have t1 : decide ((h : Int) ≤ 6) = false := by simp; omega
  have t2 : ((h : Int) == 8) = false := by simp; omega
  clear h2 h3
  go_enter Tryd.func12, Tryd.ntmps12
  go_wp2_with fail
  go_quiet ((first | (go_at_call 17; exact Calls.quiet_of_same (pss_no 7 (by omega) _))))
  go_wp2_with fail
  go_ret
  exact ⟨false, rfl, by simp, (below_alloc w _).trans ⟨rfl, rfl, rfl, Nat.le_refl _, fun _ _ => rfl⟩⟩
theorem sch_cg (h : Nat) (h2 : 6 < h) (h3 : h ≠ 8) (s : Nat) (s1 : s ≠ 1) (s3 : s ≠ 3) (s7 : s ≠ 7) (hp : s < 2052 ∨ (2054 < s ∧ s < 2057) ∨ 2059 < s) (w : World) :
    Calls Tryd.prog 12 #[.agg #[.int .u16 (h : Nat), .int .u16 s]] w (SchPost h s w) := by
  have t0 : decide ((2 : Int) ≤ h) = true := by simp; omega
  have t1 : decide ((h : Int) ≤ 6) = false := by simp; omega
  have t2 : ((h : Int) == 8) = false := by simp; omega
  have u1 : ((s : Int) == 1) = false := by simp; omega
  have u3 : ((s : Int) == 3) = false := by simp; omega
  have u7 : ((s : Int) == 7) = false := by simp; omega
  have HP := Lib.hid hp
  clear h2 h3
  clear s1 s3 s7 hp
  go_enter Tryd.func12, Tryd.ntmps12
  go_wp2_with fail
  go_quiet ((first | (go_at_call 17; exact Calls.quiet_of_same (pss_no s HP.out _))))
  go_wp2_with fail
  go_ret
  exact ⟨false, rfl, by simp, (below_alloc w _).trans ⟨rfl, rfl, rfl, Nat.le_refl _, fun _ _ => rfl⟩⟩
set_option maxHeartbeats 2000000 in
theorem sch_cp0 (h : Nat) (h2 : 6 < h) (h3 : h ≠ 8) (s : Nat) (hp : s = 2052 ∨ s = 2053 ∨ s = 2054 ∨ s = 2057 ∨ s = 2058 ∨ s = 2059) (he : h ≠ pssHash s) (w : World) :
    Calls Tryd.prog 12 #[.agg #[.int .u16 (h : Nat), .int .u16 s]] w (SchPost h s w) := by
  have t0 : decide ((2 : Int) ≤ h) = true := by simp; omega
  have t1 : decide ((h : Int) ≤ 6) = false := by simp; omega
  have t2 : ((h : Int) == 8) = false := by simp; omega
  have te : (((h : Int) : Int) == (pssHash s : Nat)) = false := by simp; omega
  clear h2 h3
  have u1 : ((s : Int) == 1) = false := by simp; omega
  have u3 : ((s : Int) == 3) = false := by simp; omega
  have u7 : ((s : Int) == 7) = false := by simp; omega
  have HP := Lib.hid hp
  generalize hg : pssHash s = q at *
  have HQ := Lib.hid hg
  clear he hp hg
  have hC : Hid (∀ w, Calls Tryd.prog 30 #[.int .u16 s] w fun e w' => e = .returned (.int .u16 (q : Nat)) ∧ w' = w) := fun w => by rw [← HQ.out]; exact pairHash_ok s HP.out w
  go_enter Tryd.func12, Tryd.ntmps12
  go_wp2_with fail
  go_quiet ((first | (go_at_call 17; exact Calls.quiet_of_same (pss_yes s HP.out _)) | (go_at_call 30; exact Calls.quiet_of_same (hC.out _))))
  go_wp2_with fail
  go_ret
  exact ⟨false, rfl, by simp, (below_alloc w _).trans ⟨rfl, rfl, rfl, Nat.le_refl _, fun _ _ => rfl⟩⟩
theorem sch_d1  (w : World) :
    Calls Tryd.prog 12 #[.agg #[.int .u16 (8 : Nat), .int .u16 1]] w (SchPost 8 1 w) := by
  go_enter Tryd.func12, Tryd.ntmps12
  go_wp2_with fail
  go_quiet ((first | (go_at_call 17; exact Calls.quiet_of_same (pss_no 1 (by omega) _))))
  go_wp2_with fail
  go_ret
  exact ⟨false, rfl, by simp, (below_alloc w _).trans ⟨rfl, rfl, rfl, Nat.le_refl _, fun _ _ => rfl⟩⟩
theorem sch_d3  (w : World) :
    Calls Tryd.prog 12 #[.agg #[.int .u16 (8 : Nat), .int .u16 3]] w (SchPost 8 3 w) := by
  go_enter Tryd.func12, Tryd.ntmps12
  go_wp2_with fail
  go_quiet ((first | (go_at_call 17; exact Calls.quiet_of_same (pss_no 3 (by omega) _))))
  go_wp2_with fail
  go_ret
  exact ⟨false, rfl, by simp, (below_alloc w _).trans ⟨rfl, rfl, rfl, Nat.le_refl _, fun _ _ => rfl⟩⟩
theorem sch_d7  (w : World) :
    Calls Tryd.prog 12 #[.agg #[.int .u16 (8 : Nat), .int .u16 7]] w (SchPost 8 7 w) := by
  go_enter Tryd.func12, Tryd.ntmps12
  go_wp2_with fail
  go_ret
  exact ⟨true, rfl, fun _ => (by unfold OkP; decide), below_alloc _ _⟩
theorem sch_dg  (s : Nat) (s1 : s ≠ 1) (s3 : s ≠ 3) (s7 : s ≠ 7) (hp : s < 2052 ∨ (2054 < s ∧ s < 2057) ∨ 2059 < s) (w : World) :
    Calls Tryd.prog 12 #[.agg #[.int .u16 (8 : Nat), .int .u16 s]] w (SchPost 8 s w) := by
  have u1 : ((s : Int) == 1) = false := by simp; omega
  have u3 : ((s : Int) == 3) = false := by simp; omega
  have u7 : ((s : Int) == 7) = false := by simp; omega
  have HP := Lib.hid hp
  clear s1 s3 s7 hp
  go_enter Tryd.func12, Tryd.ntmps12
  go_wp2_with fail
  go_quiet ((first | (go_at_call 17; exact Calls.quiet_of_same (pss_no s HP.out _))))
  go_wp2_with fail
  go_ret
  exact ⟨false, rfl, by simp, (below_alloc w _).trans ⟨rfl, rfl, rfl, Nat.le_refl _, fun _ _ => rfl⟩⟩
set_option maxHeartbeats 2000000 in
theorem sch_dp0  (s : Nat) (hp : s = 2052 ∨ s = 2053 ∨ s = 2054 ∨ s = 2057 ∨ s = 2058 ∨ s = 2059) (he : 8 ≠ pssHash s) (w : World) :
    Calls Tryd.prog 12 #[.agg #[.int .u16 (8 : Nat), .int .u16 s]] w (SchPost 8 s w) := by
  have te : ((8 : Int) == (pssHash s : Nat)) = false := by simp; omega
  have u1 : ((s : Int) == 1) = false := by simp; omega
  have u3 : ((s : Int) == 3) = false := by simp; omega
  have u7 : ((s : Int) == 7) = false := by simp; omega
  have HP := Lib.hid hp
  generalize hg : pssHash s = q at *
  have HQ := Lib.hid hg
  clear he hp hg
  have hC : Hid (∀ w, Calls Tryd.prog 30 #[.int .u16 s] w fun e w' => e = .returned (.int .u16 (q : Nat)) ∧ w' = w) := fun w => by rw [← HQ.out]; exact pairHash_ok s HP.out w
  go_enter Tryd.func12, Tryd.ntmps12
  go_wp2_with fail
  go_quiet ((first | (go_at_call 17; exact Calls.quiet_of_same (pss_yes s HP.out _)) | (go_at_call 30; exact Calls.quiet_of_same (hC.out _))))
  go_wp2_with fail
  go_ret
  exact ⟨false, rfl, by simp, (below_alloc w _).trans ⟨rfl, rfl, rfl, Nat.le_refl _, fun _ _ => rfl⟩⟩
theorem scheme_any (h s : Nat) (w : World) : Calls Tryd.prog 12 #[.agg #[.int .u16 h, .int .u16 s]] w (SchPost h s w) := by
  have hq : ∀ s, (s = 2052 ∨ s = 2053 ∨ s = 2054 ∨ s = 2057 ∨ s = 2058 ∨ s = 2059) → 4 ≤ pssHash s ∧ pssHash s ≤ 6 := by
    rintro s (rfl | rfl | rfl | rfl | rfl | rfl) <;> decide
  by_cases s1 : s = 1
  · subst s1
    by_cases h1 : h < 2
    · exact sch_a1 h h1 w
    by_cases h2 : h ≤ 6
    · exact sch_b1 h (by omega) h2 w
    by_cases h3 : h = 8
    · subst h3; exact sch_d1 w
    · exact sch_c1 h (by omega) h3 w
  by_cases s3 : s = 3
  · subst s3
    by_cases h1 : h < 2
    · exact sch_a3 h h1 w
    by_cases h2 : h ≤ 6
    · exact sch_b3 h (by omega) h2 w
    by_cases h3 : h = 8
    · subst h3; exact sch_d3 w
    · exact sch_c3 h (by omega) h3 w
  by_cases s7 : s = 7
  · subst s7
    by_cases h1 : h < 2
    · exact sch_a7 h h1 w
    by_cases h2 : h ≤ 6
    · exact sch_b7 h (by omega) h2 w
    by_cases h3 : h = 8
    · subst h3; exact sch_d7 w
    · exact sch_c7 h (by omega) h3 w
  by_cases hp : s = 2052 ∨ s = 2053 ∨ s = 2054 ∨ s = 2057 ∨ s = 2058 ∨ s = 2059
  · have := hq s hp
    by_cases h1 : h < 2
    · exact sch_ap0 h h1 s hp (by omega) w
    by_cases h2 : h ≤ 6
    · by_cases he : h = pssHash s
      · exact sch_bp1 h (by omega) h2 s hp he w
      · exact sch_bp0 h (by omega) h2 s hp he w
    by_cases h3 : h = 8
    · subst h3; exact sch_dp0 s hp (by omega) w
    · exact sch_cp0 h (by omega) h3 s hp (by omega) w
  · have hn : s < 2052 ∨ (2054 < s ∧ s < 2057) ∨ 2059 < s := by omega
    by_cases h1 : h < 2
    · exact sch_ag h h1 s s1 s3 s7 hn w
    by_cases h2 : h ≤ 6
    · exact sch_bg h (by omega) h2 s s1 s3 s7 hn w
    by_cases h3 : h = 8
    · subst h3; exact sch_dg s s1 s3 s7 hn w
    · exact sch_cg h (by omega) h3 s s1 s3 s7 hn w
end Go.Proofs.YtmappdbodnlepaaDoor
