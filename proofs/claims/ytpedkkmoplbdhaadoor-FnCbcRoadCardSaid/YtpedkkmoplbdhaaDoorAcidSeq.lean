/- Walks: the number of a record in the additional data. -/
import Derived.Test.YtpedkkmoplbdhaaDoorAcidCall
import Derived.Deep.RegionHeld3
namespace Go.Proofs.YtpedkkmoplbdhaaDoor
open Go.RowKit Go.Cv
set_option maxRecDepth 100000
set_option linter.unusedVariables false
theorem cells_kept' {w w' : World} (hb : Below w.heap.size w w') (b o : Nat) (h : b < w.heap.size) : w'.cell? ⟨b, o, none⟩ = w.cell? ⟨b, o, none⟩ := by
  unfold World.cell?
  rw [hb.block b h]
set_option maxHeartbeats 1000000 in
theorem suiteSeq_any (ct maj mn ep sq cl : Nat) (cid : List UInt8) (hep : (ep : Int) < 65536) (w : World) :
    Calls Tryd.prog 60 #[.agg (recRow ct maj mn ep sq cl cid)] w fun e w' => e = .returned (.string (S (be 2 ep ++ be 6 sq))) ∧ Below w.heap.size w w' := by
  have ha := fun w => run_add_eq (P := Tryd.prog) (be 2 ep) (be 6 sq) (be 2 ep ++ be 6 sq) rfl (by simp [be_length]) w
  have hw : IntKind.u64.wrap (ep : Int) = (ep : Int) := by rw [IntKind.wrap_u64]; omega
  clear hep
  have HBX : Hid (∀ w', Below (w.alloc (.cells (recRow ct maj mn ep sq cl cid) 25)).heap.size (w.alloc (.cells (recRow ct maj mn ep sq cl cid) 25)) w' → (w'.cell? ⟨w.heap.size, 3, none⟩ = some (.int .u16 (ep : Int)) ∧ w'.cell? ⟨w.heap.size, 4, none⟩ = some (.int .u64 (sq : Int)))) := by
    intro w' hb
    have h := (Blk.new w 25 (recRow ct maj mn ep sq cl cid)).keep hb
    exact ⟨(h.cell 3).trans rfl, (h.cell 4).trans rfl⟩
  have HC2 : Hid (∀ W, Calls Tryd.prog 89 #[.int .u64 (ep : Int), .int .i64 2] W fun e w' => e = .returned (.string (S (be 2 ep))) ∧ Below W.heap.size W w') := fun W => suiteNumber_any 2 (by omega) ep W
  have HC6 : Hid (∀ W, Calls Tryd.prog 89 #[.int .u64 (sq : Int), .int .i64 6] W fun e w' => e = .returned (.string (S (be 6 sq))) ∧ Below W.heap.size W w') := fun W => suiteNumber_any 6 (by omega) sq W
  unfold recRow at *
  go_enter Tryd.func60, Tryd.ntmps60
  go_wp2_with fail
  have hbW := below_alloc w (.cells #[.int .u8 (ct : Int), .int .u8 (maj : Int), .int .u8 (mn : Int), .int .u16 (ep : Int), .int .u64 (sq : Int), .int .u16 (cl : Int), .string (S cid)] 25)
  generalize w.alloc (.cells #[.int .u8 (ct : Int), .int .u8 (maj : Int), .int .u8 (mn : Int), .int .u16 (ep : Int), .int .u64 (sq : Int), .int .u16 (cl : Int), .string (S cid)] 25) = W at *
  go_region_held3 (fun w' => w'.cell? ⟨w.heap.size, 3, none⟩ = some (.int .u16 (ep : Int)) ∧ w'.cell? ⟨w.heap.size, 4, none⟩ = some (.int .u64 (sq : Int))) ((refine HBX.out _ ?_; first | ((repeat (first | assumption | exact Below.refl _ _ | refine Below.drew ?_ | refine Below.setCell ?_ (by first | omega | (simp; done) | (simp; omega)) _ | refine Below.alloc ?_ (by first | omega | (simp; done) | (simp; omega)) _)); done) | exact below_two (below_drew _) (by assumption) | exact below_two (below_two (below_drew _) hb2) hb6 | exact below_two (below_two (below_drew _) hb6) hb2)) (first
    | (go_at_call 89; first
        | (with_reducible refine (HC2.out _).mono ?_; rintro e w2 ⟨rfl, hb2⟩)
        | (with_reducible refine (HC6.out _).mono ?_; rintro e w6 ⟨rfl, hb6⟩)))
  go_wp2_with fail
  go_ret
  exact ⟨rfl, below_two hbW (below_two (below_two (below_drew W) hb2) hb6)⟩
end Go.Proofs.YtpedkkmoplbdhaaDoor
