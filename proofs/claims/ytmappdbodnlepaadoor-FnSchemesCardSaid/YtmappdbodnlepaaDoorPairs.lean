/- Walks: signature schemes as pairs: which are schemes, and how they are written. -/
import Derived.Test.YtmappdbodnlepaaDoorBig
import Derived.Test.YtmappdbodnlepaaDoorOps6
import Derived.Test.YtmappdbodnlepaaDoorElems
import Derived.LoopTactic
import Derived.Outline
namespace Go.Proofs.YtmappdbodnlepaaDoor
open Go.RowKit Go.Cv
set_option maxRecDepth 100000
set_option linter.unusedVariables false
/-- The schemes: hash and signature. -/
def pairsOK : List (Nat × Nat) := [(2, 1), (3, 1), (4, 1), (5, 1), (6, 1), (2, 3), (3, 3), (4, 3), (5, 3), (6, 3), (8, 7), (4, 2052), (5, 2053), (6, 2054), (4, 2057), (5, 2058), (6, 2059)]
def OkP (h s : Nat) : Prop := (h, s) ∈ pairsOK
theorem OkP.cases {h s : Nat} (ok : OkP h s) {p : Nat → Nat → Prop} (H : ∀ q ∈ pairsOK, p q.1 q.2) : p h s := H _ ok
def code (h s : Nat) : Nat := if 2052 ≤ s then s else h * 256 + s
theorem pss_yes (s : Nat) (hs : s = 2052 ∨ s = 2053 ∨ s = 2054 ∨ s = 2057 ∨ s = 2058 ∨ s = 2059) (w : World) :
    Calls Tryd.prog 17 #[.int .u16 s] w fun e w' => e = .returned (.bool true) ∧ w' = w := by
  rcases hs with rfl | rfl | rfl | rfl | rfl | rfl
  all_goals
    go_enter Tryd.func17, Tryd.ntmps17
    go_wp2_with fail
    go_ret
    exact ⟨rfl, rfl⟩
theorem pss_no (s : Nat) (hs : s < 2052 ∨ (2054 < s ∧ s < 2057) ∨ 2059 < s) (w : World) :
    Calls Tryd.prog 17 #[.int .u16 s] w fun e w' => e = .returned (.bool false) ∧ w' = w := by
  rcases hs with h | ⟨h, h'⟩ | h
  · have t1 : decide ((2052 : Int) ≤ s) = false := by simp; omega
    have t2 : decide ((2057 : Int) ≤ s) = false := by simp; omega
    clear h
    go_enter Tryd.func17, Tryd.ntmps17
    go_wp2_with fail
    go_ret
    exact ⟨rfl, rfl⟩
  · have t1 : decide ((2052 : Int) ≤ s) = true := by simp; omega
    have t2 : decide ((2057 : Int) ≤ s) = false := by simp; omega
    have t3 : decide ((s : Int) ≤ 2054) = false := by simp; omega
    clear h h'
    go_enter Tryd.func17, Tryd.ntmps17
    go_wp2_with fail
    go_ret
    exact ⟨rfl, rfl⟩
  · have t1 : decide ((2052 : Int) ≤ s) = true := by simp; omega
    have t2 : decide ((2057 : Int) ≤ s) = true := by simp; omega
    have t3 : decide ((s : Int) ≤ 2054) = false := by simp; omega
    have t4 : decide ((s : Int) ≤ 2059) = false := by simp; omega
    clear h
    go_enter Tryd.func17, Tryd.ntmps17
    go_wp2_with fail
    go_ret
    exact ⟨rfl, rfl⟩
def pssHash (s : Nat) : Nat := if 2057 ≤ s then s - 2053 else s - 2048
theorem pairHash_ok (s : Nat) (hs : s = 2052 ∨ s = 2053 ∨ s = 2054 ∨ s = 2057 ∨ s = 2058 ∨ s = 2059) (w : World) :
    Calls Tryd.prog 30 #[.int .u16 s] w fun e w' => e = .returned (.int .u16 (pssHash s : Nat)) ∧ w' = w := by
  rcases hs with rfl | rfl | rfl | rfl | rfl | rfl
  all_goals
    go_enter Tryd.func30, Tryd.ntmps30
    go_wp2_with fail
    go_ret
    exact ⟨rfl, rfl⟩
theorem recNum2 (s : Nat) (hs : s = 2052 ∨ s = 2053 ∨ s = 2054 ∨ s = 2057 ∨ s = 2058 ∨ s = 2059) (w : World) :
    Calls Tryd.prog 33 #[.int .u64 s, .int .i64 2] w fun e w' => e = .returned (.string (S (be 2 s))) ∧ Below w.heap.size w w' := by
  obtain ⟨l, hl⟩ : ∃ l, be 2 s = l := ⟨_, rfl⟩
  obtain ⟨x, y, hx, hxy⟩ : ∃ x y : UInt8, l = [x, y] ∧ ((x.toNat : Int) = s / 256 ∧ (y.toNat : Int) = s % 256) := by
    refine ⟨UInt8.ofNat (s / 256), UInt8.ofNat s, by rw [← hl]; simp [be], ?_, ?_⟩ <;> (rcases hs with rfl | rfl | rfl | rfl | rfl | rfl <;> decide)
  rw [hl]
  have HX := Lib.hid hx
  have HXY := Lib.hid hxy
  clear hl hx hxy
  rcases hs with rfl | rfl | rfl | rfl | rfl | rfl
  all_goals
    go_enter Tryd.func33, Tryd.ntmps33
    go_wp2_with fail
    refine wp_loop_rounds 3 ?_
    rw [rounds_succ]
    go_wp2_with (at_builtin; refine Held.on ?_)
    refine held_append rfl (.tmp 13) (.tmp 19) 39 39 rfl w.heap.size 5 _ 1 1 Tryd.underlying39 (.inl Tryd.underlying39) u8info rfl (by omega) (xs := []) (ys := [_]) rfl rfl (Own.nil _ _ _) ⟨rfl, ?_, .inl ⟨_, _, rfl, rd_single _ _ _⟩⟩ (by omega) (by simp [maxLen]) (by simp) ?_
    · intro v h; simp at h; subst h; rfl
    intro A1 c1 w1 hO1 hg1 hor1
    have hA1 : Hi w.heap.size A1 := (show Hi w.heap.size none from .inl rfl).new hor1 (by simp)
    have b1 : Below w.heap.size w w1 := ((Tch.alloc w _).then (Tch.grown hg1) (by simp)).toBelow (Nat.le_refl _)
    have HO1 := Lib.hid hO1
    have HB1 := Lib.hid b1
    clear hO1 hg1 hor1 b1
    go_wp2_with fail
    rw [rounds_succ]
    go_wp2_with (at_builtin; refine Held.on ?_)
    refine held_append rfl (.tmp 13) (.tmp 19) 39 39 rfl w.heap.size 5 _ 1 1 Tryd.underlying39 (.inl Tryd.underlying39) u8info rfl (by omega) (ys := [_]) rfl rfl (HO1.out.keep (below_alloc _ _)) ⟨rfl, ?_, .inl ⟨_, _, rfl, rd_single _ _ _⟩⟩ (by omega) (by simp [maxLen]) (by have := HB1.out.size; simp; omega) ?_
    · intro v h; simp at h; subst h; rfl
    intro A2 c2 w2 hO2 hg2 hor2
    have b2 : Below w.heap.size w w2 := ((((Tch.below HB1.out []).then (Tch.alloc w1 _) (by simp)).then (Tch.grown hg2) (fun k hk => .inr (hA1.inn k hk)))).toBelow (Nat.le_refl _)
    have HO2 := Lib.hid hO2
    have HB2 := Lib.hid b2
    clear hO2 hg2 hor2 b2
    go_wp2_with fail
    rw [rounds_succ]
    go_wp2_with fail
    have hr2 : Rd w2 A2 (vs l) := by
      have h := HO2.out.rd
      have e1 := HXY.out.1
      have e2 := HXY.out.2
      rw [HX.out]
      simp only [vs, List.map_cons, List.map_nil, e1, e2]
      exact h
    refine upon_conv_bs 39 9 5 Tryd.underlying39 Tryd.underlying5 Tryd.underlying9 l A2 _ _ (by rw [HX.out]; rfl) hr2 ?_
    go_wp2_with fail
    go_ret
    exact ⟨rfl, HB2.out⟩
end Go.Proofs.YtmappdbodnlepaaDoor
