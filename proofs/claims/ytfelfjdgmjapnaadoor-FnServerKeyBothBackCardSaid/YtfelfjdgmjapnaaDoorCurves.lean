/- Walks: the map of the curves. -/
import Derived.Test.YtfelfjdgmjapnaaDoorMap
import Derived.Test.YtfelfjdgmjapnaaDoorProg
namespace Go.Proofs.YtfelfjdgmjapnaaDoor
open Go.RowKit Go.Cv Go.Maps
set_option maxRecDepth 100000
set_option linter.unusedVariables false
theorem boolZero (w : World) : (zeroValue 4).run Tryd.prog w = .ok (.bool false) w := by kernel_rfl
def curvesD : DataW Unit := (((DataW.map []).put (.int .u16 29) (.lit (.bool true))).put (.int .u16 23) (.lit (.bool true))).put (.int .u16 24) (.lit (.bool true))
theorem curves_at (x : Nat) (hx : x = 23 ∨ x = 24 ∨ x = 29) : curvesD.atKey (.int .u16 x) (.lit (.bool false)) = .lit (.bool true) ∧ Maps.has curvesD (.int .u16 x) = true := by
  rcases hx with rfl | rfl | rfl <;> exact ⟨by kernel_rfl, by kernel_rfl⟩
theorem curveKeyed : Keyed Tryd.prog 53 := int_keyed Tryd.underlying53
theorem curves_any (w : World) :
    Calls Tryd.prog 35 #[] w fun e w' => ∃ b, e = .returned (.map (some b)) ∧ w'.ownsMap Tryd.prog 53 (plainElem Tryd.prog 4) b 3 curvesD ∧ Below w.heap.size w w' := by
  have hmm := @run_makeMap Tryd.prog
  have h0 := World.ownsMap_made (H := Unit) w Tryd.prog 53 (plainElem Tryd.prog 4)
  go_enter Tryd.func35, Tryd.ntmps35
  go_wp2_with (with_reducible refine Held.insert ?_)
  refine held_insert rfl (.tmp 1) _ _ 94 rfl 53 4 curveKeyed Tryd.underlying94 _ _ _ _ rfl h0 (by simp [maxLen]) _ _ (.int .u16 29) rfl rfl (keyOf_int_mk Tryd.underlying53 (by decide)) _ _ (plainElem_bool Tryd.underlying4 true) ?_
  intro w1 h1 g1
  go_wp2_with (with_reducible refine Held.insert ?_)
  refine held_insert rfl (.tmp 1) _ _ 94 rfl 53 4 curveKeyed Tryd.underlying94 _ _ _ _ rfl h1 (by simp [maxLen]) _ _ (.int .u16 23) rfl rfl (keyOf_int_mk Tryd.underlying53 (by decide)) _ _ (plainElem_bool Tryd.underlying4 true) ?_
  intro w2 h2 g2
  go_wp2_with (with_reducible refine Held.insert ?_)
  refine held_insert rfl (.tmp 1) _ _ 94 rfl 53 4 curveKeyed Tryd.underlying94 _ _ _ _ rfl h2 (by simp [maxLen]) _ _ (.int .u16 24) rfl rfl (keyOf_int_mk Tryd.underlying53 (by decide)) _ _ (plainElem_bool Tryd.underlying4 true) ?_
  intro w3 h3 g3
  have hb : Below w.heap.size w w3 := by
    have g : (w.alloc (.map #[] 0)).grownBy w3 (some w.heap.size) := grown_trans (grown_trans g1 g2) g3
    exact below_append_new g
  go_wp2_with fail
  go_ret
  exact ⟨_, rfl, h3, hb⟩
end Go.Proofs.YtfelfjdgmjapnaaDoor
