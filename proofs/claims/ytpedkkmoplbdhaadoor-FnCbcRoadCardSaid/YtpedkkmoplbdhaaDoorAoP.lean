/- Plain laws: the additional data are the same on both sides. -/
import Derived.Test.YtpedkkmoplbdhaaDoorAoG
import Derived.Test.YtpedkkmoplbdhaaDoorAoX
namespace Go.Proofs.YtpedkkmoplbdhaaDoor
open Go.RowKit Go.Cv
set_option maxRecDepth 100000
set_option linter.unusedVariables false
theorem add_same (ct maj mn : UInt8) (ep sq m : Nat) : addS ct.toNat maj.toNat mn.toNat ep sq m = add13 ct maj mn ep sq m := by
  have h (x : UInt8) : be 1 x.toNat = [x] := by simp [be]
  rw [addS, add13, h, h, h]
  simp only [List.append_assoc, List.cons_append, List.nil_append]
end Go.Proofs.YtpedkkmoplbdhaaDoor
