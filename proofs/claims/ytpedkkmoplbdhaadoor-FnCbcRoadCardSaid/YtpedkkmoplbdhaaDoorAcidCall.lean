/- Walks: the additional data of a record with a connection ID: the calls about it. -/
import Derived.Test.YtpedkkmoplbdhaaDoorAcidImpl
namespace Go.Proofs.YtpedkkmoplbdhaaDoor
open Go.RowKit Go.Cv
set_option maxRecDepth 100000
set_option linter.unusedVariables false
theorem fits_any (ct maj mn ep sq cl : Nat) (cid : List UInt8) (w : World) (h : decide ((2147483647 : Int) < cid.length) = false) :
    Calls Tryd.prog 7 #[.agg (recRow ct maj mn ep sq cl cid)] w fun e w' => e = .returned (.bool true) ∧ Below w.heap.size w w' := by
  have h3 : (S cid).size = cid.length := S_size cid
  unfold recRow
  go_enter Tryd.func7, Tryd.ntmps7
  go_wp2_with fail
  go_ret
  exact ⟨rfl, below_alloc _ _⟩
theorem nofits_any (ct maj mn ep sq cl : Nat) (cid : List UInt8) (w : World) (h : decide ((2147483647 : Int) < cid.length) = true) :
    Calls Tryd.prog 7 #[.agg (recRow ct maj mn ep sq cl cid)] w fun e w' => e = .returned (.bool false) ∧ Below w.heap.size w w' := by
  have h3 : (S cid).size = cid.length := S_size cid
  unfold recRow
  go_enter Tryd.func7, Tryd.ntmps7
  go_wp2_with fail
  go_ret
  exact ⟨rfl, below_alloc _ _⟩
end Go.Proofs.YtpedkkmoplbdhaaDoor
