/- Walks: a server's key exchange by a curve, as the library has it. -/
import Derived.Test.YtmappdbodnlepaaDoorAlgM
import Derived.Test.YtmappdbodnlepaaDoorU16
import Derived.Deep.RegionHeldLaw
import Derived.StillTailTactics
import Derived.Outline
namespace Go.Proofs.YtmappdbodnlepaaDoor
open Go.RowKit Go.Cv
set_option maxRecDepth 100000
set_option linter.unusedVariables false
theorem skHas (w : World) : Calls Tryd.prog 62 #[.int .i64 4, .int .i64 2] w fun e w' => e = .returned (.bool false) ∧ w = w' := by
  go_enter Tryd.func62, Tryd.ntmps62
  go_wp2_with fail
  go_ret
  exact ⟨rfl, rfl⟩
theorem skPsk (w : World) : Calls Tryd.prog 61 #[.int .i64 4] w fun e w' => e = .returned (.bool false) ∧ Below w.heap.size w w' := by
  go_enter Tryd.func61, Tryd.ntmps61
  go_wp2_with fail
  refine (skHas w).mono ?_
  rintro e w1 ⟨rfl, rfl⟩
  go_wp2_with fail
  go_ret
  exact ⟨rfl, Below.refl _ _⟩
theorem skSome (w : World) : Calls Tryd.prog 60 #[.bool false, .string (S [])] w fun e w' => e = .returned (.slice none 0 0) ∧ Below w.heap.size w w' := by
  go_enter Tryd.func60, Tryd.ntmps60
  go_wp2_with fail
  go_ret
  exact ⟨rfl, Below.refl _ _⟩
def skRow (cv h s ra np c1 rb ns c2 : Nat) : Array Value := #[.slice none 0 0, .int .u8 3, .int .u16 (cv : Int), .slice (some ⟨ra, 0, none⟩) np c1, .int .u16 (h : Int), .int .u16 (s : Int), .slice (some ⟨rb, 0, none⟩) ns c2, .int .i64 4]
def skCells (w : World) (b cv h s : Nat) (pk sg : List UInt8) : Prop :=
  w.cell? ⟨b, 19, none⟩ = some (.int .i64 4) ∧ w.cell? ⟨b, 17, none⟩ = some (.string (S [])) ∧ w.cell? ⟨b, 20, none⟩ = some (.int .u8 3) ∧ w.cell? ⟨b, 21, none⟩ = some (.int .u16 (cv : Int)) ∧ w.cell? ⟨b, 18, none⟩ = some (.string (S pk)) ∧ w.cell? ⟨b, 14, none⟩ = some (.int .u16 (h : Int)) ∧ w.cell? ⟨b, 15, none⟩ = some (.int .u16 (s : Int)) ∧ w.cell? ⟨b, 16, none⟩ = some (.string (S sg))
set_option maxHeartbeats 4000000 in
theorem makeSk_any (cv h s : Nat) (pk sg : List UInt8) (hpk : pk.length ≤ maxLen) (hsg : sg.length ≤ maxLen) (cs : Array Value) (h14 : cs[14]? = some (.int .u16 (h : Int))) (h15 : cs[15]? = some (.int .u16 (s : Int))) (h16 : cs[16]? = some (.string (S sg))) (h17 : cs[17]? = some (.string (S []))) (h18 : cs[18]? = some (.string (S pk))) (h19 : cs[19]? = some (.int .i64 4)) (h20 : cs[20]? = some (.int .u8 3)) (h21 : cs[21]? = some (.int .u16 (cv : Int))) (w : World) :
    Calls Tryd.prog 31 #[.agg cs] w fun e w' => ∃ b ra c1 rb c2, e = .returned (.pointer (some ⟨b, 0, none⟩)) ∧ Blk w' b 87 (skRow cv h s ra pk.length c1 rb sg.length c2) ∧ Rd w' (some ⟨ra, 0, none⟩) (vs pk) ∧ Rd w' (some ⟨rb, 0, none⟩) (vs sg) ∧ Below w.heap.size w w' := by
  have HLP := Lib.hid hpk
  have HLS := Lib.hid hsg
  have HP : Hid (∀ W, Calls Tryd.prog 61 #[.int .i64 4] W fun e w' => e = .returned (.bool false) ∧ Below W.heap.size W w') := Lib.hid skPsk
  have HS : Hid (∀ W, Calls Tryd.prog 60 #[.bool false, .string (S [])] W fun e w' => e = .returned (.slice none 0 0) ∧ Below W.heap.size W w') := Lib.hid skSome
  have HBX : Hid (∀ w', Below (w.alloc (.cells cs 45)).heap.size (w.alloc (.cells cs 45)) w' → skCells w' w.heap.size cv h s pk sg) := Lib.hid (fun w' hb => by
    have hh := (Blk.new w 45 cs).keep hb
    exact ⟨(hh.cell 19).trans h19, (hh.cell 17).trans h17, (hh.cell 20).trans h20, (hh.cell 21).trans h21, (hh.cell 18).trans h18, (hh.cell 14).trans h14, (hh.cell 15).trans h15, (hh.cell 16).trans h16⟩)
  have hbW := below_alloc w (.cells cs 45)
  clear hpk hsg h14 h15 h16 h17 h18 h19 h20 h21
  unfold skCells at HBX
  go_enter Tryd.func31, Tryd.ntmps31
  go_wp2_with fail
  generalize w.alloc (.cells cs 45) = W at *
  go_region_held_law (fun w' => w'.cell? ⟨w.heap.size, 19, none⟩ = some (.int .i64 4) ∧ w'.cell? ⟨w.heap.size, 17, none⟩ = some (.string (S [])) ∧ w'.cell? ⟨w.heap.size, 20, none⟩ = some (.int .u8 3) ∧ w'.cell? ⟨w.heap.size, 21, none⟩ = some (.int .u16 (cv : Int)) ∧ w'.cell? ⟨w.heap.size, 18, none⟩ = some (.string (S pk)) ∧ w'.cell? ⟨w.heap.size, 14, none⟩ = some (.int .u16 (h : Int)) ∧ w'.cell? ⟨w.heap.size, 15, none⟩ = some (.int .u16 (s : Int)) ∧ w'.cell? ⟨w.heap.size, 16, none⟩ = some (.string (S sg)))
    ((refine HBX.out _ ?_; (repeat (first | exact Below.refl _ _ | refine below_two ?_ hb1 | refine below_two ?_ hb2 | refine below_two ?_ hb3 | refine below_two ?_ hb4 | refine Below.drew ?_ | refine below_two ?_ (below_alloc _ _))); done)) (first
    | (go_at_call 61; with_reducible refine (HP.out _).mono ?_; rintro e w1 ⟨rfl, hb1⟩)
    | (go_at_call 60; with_reducible refine (HS.out _).mono ?_; rintro e w2 ⟨rfl, hb2⟩)
    | (with_reducible refine upon_conv_sb 9 39 5 Tryd.underlying9 Tryd.underlying39 Tryd.underlying5 pk HLP.out ?_; intro c1 w3 hown3 hb3 hlt3)
    | (with_reducible refine upon_conv_sb 9 39 5 Tryd.underlying9 Tryd.underlying39 Tryd.underlying5 sg HLS.out ?_; intro c2 w4 hown4 hb4 hlt4))
  all_goals
    go_wp2_with fail
    go_ret
    refine ⟨_, _, c1, _, c2, rfl, Blk.new _ _ (skRow cv h s _ pk.length c1 _ sg.length c2), ?_, ?_, ?_⟩
    · (repeat (first | exact hown3.rd | refine Rd.keep ?_ (below_alloc _ _) | refine Rd.keep ?_ hb1 | refine Rd.keep ?_ hb2 | refine Rd.keep ?_ hb4))
    · (repeat (first | exact hown4.rd | refine Rd.keep ?_ (below_alloc _ _) | refine Rd.keep ?_ hb1 | refine Rd.keep ?_ hb2 | refine Rd.keep ?_ hb3))
    · refine below_two hbW ?_
      (repeat (first | exact Below.refl _ _ | refine below_two ?_ hb1 | refine below_two ?_ hb2 | refine below_two ?_ hb3 | refine below_two ?_ hb4 | refine Below.drew ?_ | refine below_two ?_ (below_alloc _ _)))
end Go.Proofs.YtmappdbodnlepaaDoor
