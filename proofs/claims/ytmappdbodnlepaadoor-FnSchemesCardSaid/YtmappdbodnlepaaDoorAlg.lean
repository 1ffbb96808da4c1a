/- Walks: a signature scheme's number, taken apart. -/
import Derived.Test.YtmappdbodnlepaaDoorPairs3
import Derived.Test.YtmappdbodnlepaaDoorMap
import Derived.Deep.RegionHeld3
namespace Go.Proofs.YtmappdbodnlepaaDoor
open Go.RowKit Go.Cv Go.Maps
set_option maxRecDepth 100000
set_option linter.unusedVariables false
theorem unitZero (w : World) : (zeroValue 112).run Tryd.prog w = .ok (.agg #[]) w := by kernel_rfl
def sigD : DataW Unit := (DataW.put (DataW.put (DataW.put (DataW.put (DataW.put (DataW.put (DataW.put (DataW.put (DataW.put (DataW.put (DataW.map [] : DataW Unit) (.int .u16 0) (.agg [])) (.int .u16 1) (.agg [])) (.int .u16 3) (.agg [])) (.int .u16 7) (.agg [])) (.int .u16 2052) (.agg [])) (.int .u16 2053) (.agg [])) (.int .u16 2054) (.agg [])) (.int .u16 2057) (.agg [])) (.int .u16 2058) (.agg [])) (.int .u16 2059) (.agg []))
theorem sigKeyed : Keyed Tryd.prog 85 := int_keyed Tryd.underlying85
set_option maxHeartbeats 1000000 in
theorem sig_any (w : World) :
    Calls Tryd.prog 69 #[] w fun e w' => ∃ b, e = .returned (.map (some b)) ∧ w'.ownsMap Tryd.prog 85 unitElem b 10 sigD ∧ Below w.heap.size w w' := by
  have hmm := @run_makeMap Tryd.prog
  have h0 := World.ownsMap_made (H := Unit) w Tryd.prog 85 unitElem
  go_enter Tryd.func69, Tryd.ntmps69
  go_wp2_with (with_reducible refine Held.insert ?_)
  refine held_insert rfl (.tmp 1) _ _ 139 rfl 85 112 sigKeyed Tryd.underlying139 _ _ _ _ rfl h0 (by simp [maxLen]) _ _ (.int .u16 0) rfl rfl (keyOf_int_mk Tryd.underlying85 (by decide)) _ _ unitElem_mk ?_
  intro w1 h1 g1
  go_wp2_with (with_reducible refine Held.insert ?_)
  refine held_insert rfl (.tmp 1) _ _ 139 rfl 85 112 sigKeyed Tryd.underlying139 _ _ _ _ rfl h1 (by simp [maxLen]) _ _ (.int .u16 1) rfl rfl (keyOf_int_mk Tryd.underlying85 (by decide)) _ _ unitElem_mk ?_
  intro w2 h2 g2
  go_wp2_with (with_reducible refine Held.insert ?_)
  refine held_insert rfl (.tmp 1) _ _ 139 rfl 85 112 sigKeyed Tryd.underlying139 _ _ _ _ rfl h2 (by simp [maxLen]) _ _ (.int .u16 3) rfl rfl (keyOf_int_mk Tryd.underlying85 (by decide)) _ _ unitElem_mk ?_
  intro w3 h3 g3
  go_wp2_with (with_reducible refine Held.insert ?_)
  refine held_insert rfl (.tmp 1) _ _ 139 rfl 85 112 sigKeyed Tryd.underlying139 _ _ _ _ rfl h3 (by simp [maxLen]) _ _ (.int .u16 7) rfl rfl (keyOf_int_mk Tryd.underlying85 (by decide)) _ _ unitElem_mk ?_
  intro w4 h4 g4
  go_wp2_with (with_reducible refine Held.insert ?_)
  refine held_insert rfl (.tmp 1) _ _ 139 rfl 85 112 sigKeyed Tryd.underlying139 _ _ _ _ rfl h4 (by simp [maxLen]) _ _ (.int .u16 2052) rfl rfl (keyOf_int_mk Tryd.underlying85 (by decide)) _ _ unitElem_mk ?_
  intro w5 h5 g5
  go_wp2_with (with_reducible refine Held.insert ?_)
  refine held_insert rfl (.tmp 1) _ _ 139 rfl 85 112 sigKeyed Tryd.underlying139 _ _ _ _ rfl h5 (by simp [maxLen]) _ _ (.int .u16 2053) rfl rfl (keyOf_int_mk Tryd.underlying85 (by decide)) _ _ unitElem_mk ?_
  intro w6 h6 g6
  go_wp2_with (with_reducible refine Held.insert ?_)
  refine held_insert rfl (.tmp 1) _ _ 139 rfl 85 112 sigKeyed Tryd.underlying139 _ _ _ _ rfl h6 (by simp [maxLen]) _ _ (.int .u16 2054) rfl rfl (keyOf_int_mk Tryd.underlying85 (by decide)) _ _ unitElem_mk ?_
  intro w7 h7 g7
  go_wp2_with (with_reducible refine Held.insert ?_)
  refine held_insert rfl (.tmp 1) _ _ 139 rfl 85 112 sigKeyed Tryd.underlying139 _ _ _ _ rfl h7 (by simp [maxLen]) _ _ (.int .u16 2057) rfl rfl (keyOf_int_mk Tryd.underlying85 (by decide)) _ _ unitElem_mk ?_
  intro w8 h8 g8
  go_wp2_with (with_reducible refine Held.insert ?_)
  refine held_insert rfl (.tmp 1) _ _ 139 rfl 85 112 sigKeyed Tryd.underlying139 _ _ _ _ rfl h8 (by simp [maxLen]) _ _ (.int .u16 2058) rfl rfl (keyOf_int_mk Tryd.underlying85 (by decide)) _ _ unitElem_mk ?_
  intro w9 h9 g9
  go_wp2_with (with_reducible refine Held.insert ?_)
  refine held_insert rfl (.tmp 1) _ _ 139 rfl 85 112 sigKeyed Tryd.underlying139 _ _ _ _ rfl h9 (by simp [maxLen]) _ _ (.int .u16 2059) rfl rfl (keyOf_int_mk Tryd.underlying85 (by decide)) _ _ unitElem_mk ?_
  intro w10 h10 g10
  have hb : Below w.heap.size w w10 := by
    have g : (w.alloc (.map #[] 0)).grownBy w10 (some w.heap.size) := (grown_trans (grown_trans (grown_trans (grown_trans (grown_trans (grown_trans (grown_trans (grown_trans (grown_trans g1 g2) g3) g4) g5) g6) g7) g8) g9) g10)
    exact below_append_new g
  go_wp2_with fail
  go_ret
  exact ⟨_, rfl, h10, hb⟩
def hshD : DataW Unit := (DataW.put (DataW.put (DataW.put (DataW.put (DataW.put (DataW.put (DataW.put (DataW.put (DataW.map [] : DataW Unit) (.int .u16 0) (.agg [])) (.int .u16 1) (.agg [])) (.int .u16 2) (.agg [])) (.int .u16 3) (.agg [])) (.int .u16 4) (.agg [])) (.int .u16 5) (.agg [])) (.int .u16 6) (.agg [])) (.int .u16 8) (.agg []))
theorem hshKeyed : Keyed Tryd.prog 84 := int_keyed Tryd.underlying84
set_option maxHeartbeats 1000000 in
theorem hsh_any (w : World) :
    Calls Tryd.prog 70 #[] w fun e w' => ∃ b, e = .returned (.map (some b)) ∧ w'.ownsMap Tryd.prog 84 unitElem b 8 hshD ∧ Below w.heap.size w w' := by
  have hmm := @run_makeMap Tryd.prog
  have h0 := World.ownsMap_made (H := Unit) w Tryd.prog 84 unitElem
  go_enter Tryd.func70, Tryd.ntmps70
  go_wp2_with (with_reducible refine Held.insert ?_)
  refine held_insert rfl (.tmp 1) _ _ 141 rfl 84 112 hshKeyed Tryd.underlying141 _ _ _ _ rfl h0 (by simp [maxLen]) _ _ (.int .u16 0) rfl rfl (keyOf_int_mk Tryd.underlying84 (by decide)) _ _ unitElem_mk ?_
  intro w1 h1 g1
  go_wp2_with (with_reducible refine Held.insert ?_)
  refine held_insert rfl (.tmp 1) _ _ 141 rfl 84 112 hshKeyed Tryd.underlying141 _ _ _ _ rfl h1 (by simp [maxLen]) _ _ (.int .u16 1) rfl rfl (keyOf_int_mk Tryd.underlying84 (by decide)) _ _ unitElem_mk ?_
  intro w2 h2 g2
  go_wp2_with (with_reducible refine Held.insert ?_)
  refine held_insert rfl (.tmp 1) _ _ 141 rfl 84 112 hshKeyed Tryd.underlying141 _ _ _ _ rfl h2 (by simp [maxLen]) _ _ (.int .u16 2) rfl rfl (keyOf_int_mk Tryd.underlying84 (by decide)) _ _ unitElem_mk ?_
  intro w3 h3 g3
  go_wp2_with (with_reducible refine Held.insert ?_)
  refine held_insert rfl (.tmp 1) _ _ 141 rfl 84 112 hshKeyed Tryd.underlying141 _ _ _ _ rfl h3 (by simp [maxLen]) _ _ (.int .u16 3) rfl rfl (keyOf_int_mk Tryd.underlying84 (by decide)) _ _ unitElem_mk ?_
  intro w4 h4 g4
  go_wp2_with (with_reducible refine Held.insert ?_)
  refine held_insert rfl (.tmp 1) _ _ 141 rfl 84 112 hshKeyed Tryd.underlying141 _ _ _ _ rfl h4 (by simp [maxLen]) _ _ (.int .u16 4) rfl rfl (keyOf_int_mk Tryd.underlying84 (by decide)) _ _ unitElem_mk ?_
  intro w5 h5 g5
  go_wp2_with (with_reducible refine Held.insert ?_)
  refine held_insert rfl (.tmp 1) _ _ 141 rfl 84 112 hshKeyed Tryd.underlying141 _ _ _ _ rfl h5 (by simp [maxLen]) _ _ (.int .u16 5) rfl rfl (keyOf_int_mk Tryd.underlying84 (by decide)) _ _ unitElem_mk ?_
  intro w6 h6 g6
  go_wp2_with (with_reducible refine Held.insert ?_)
  refine held_insert rfl (.tmp 1) _ _ 141 rfl 84 112 hshKeyed Tryd.underlying141 _ _ _ _ rfl h6 (by simp [maxLen]) _ _ (.int .u16 6) rfl rfl (keyOf_int_mk Tryd.underlying84 (by decide)) _ _ unitElem_mk ?_
  intro w7 h7 g7
  go_wp2_with (with_reducible refine Held.insert ?_)
  refine held_insert rfl (.tmp 1) _ _ 141 rfl 84 112 hshKeyed Tryd.underlying141 _ _ _ _ rfl h7 (by simp [maxLen]) _ _ (.int .u16 8) rfl rfl (keyOf_int_mk Tryd.underlying84 (by decide)) _ _ unitElem_mk ?_
  intro w8 h8 g8
  have hb : Below w.heap.size w w8 := by
    have g : (w.alloc (.map #[] 0)).grownBy w8 (some w.heap.size) := (grown_trans (grown_trans (grown_trans (grown_trans (grown_trans (grown_trans (grown_trans g1 g2) g3) g4) g5) g6) g7) g8)
    exact below_append_new g
  go_wp2_with fail
  go_ret
  exact ⟨_, rfl, h8, hb⟩
theorem isPss_yes (s : Nat) (hs : s = 2052 ∨ s = 2053 ∨ s = 2054 ∨ s = 2057 ∨ s = 2058 ∨ s = 2059) (w : World) :
    Calls Tryd.prog 67 #[.int .u16 s] w fun e w' => e = .returned (.bool true) ∧ w = w' := by
  rcases hs with rfl | rfl | rfl | rfl | rfl | rfl
  all_goals
    go_enter Tryd.func67, Tryd.ntmps67
    go_wp2_with fail
    go_ret
    exact ⟨rfl, rfl⟩
theorem isPss_no (s : Nat) (hs : ¬ (s = 2052 ∨ s = 2053 ∨ s = 2054 ∨ s = 2057 ∨ s = 2058 ∨ s = 2059)) (w : World) :
    Calls Tryd.prog 67 #[.int .u16 s] w fun e w' => e = .returned (.bool false) ∧ w = w' := by
  have t1 : ((s : Int) == 2052) = false := by simp; omega
  have t2 : ((s : Int) == 2053) = false := by simp; omega
  have t3 : ((s : Int) == 2054) = false := by simp; omega
  have t4 : ((s : Int) == 2057) = false := by simp; omega
  have t5 : ((s : Int) == 2058) = false := by simp; omega
  have t6 : ((s : Int) == 2059) = false := by simp; omega
  clear hs
  go_enter Tryd.func67, Tryd.ntmps67
  go_wp2_with fail
  go_ret
  exact ⟨rfl, rfl⟩
theorem extract_ok (s : Nat) (hs : s = 2052 ∨ s = 2053 ∨ s = 2054 ∨ s = 2057 ∨ s = 2058 ∨ s = 2059) (w : World) :
    Calls Tryd.prog 68 #[.int .u16 s] w fun e w' => e = .returned (.int .u16 (pssHash s : Nat)) ∧ w = w' := by
  rcases hs with rfl | rfl | rfl | rfl | rfl | rfl
  all_goals
    go_enter Tryd.func68, Tryd.ntmps68
    go_wp2_with fail
    go_ret
    exact ⟨rfl, rfl⟩
end Go.Proofs.YtmappdbodnlepaaDoor
