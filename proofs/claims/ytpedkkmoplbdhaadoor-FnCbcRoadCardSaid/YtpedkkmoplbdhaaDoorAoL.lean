/- Walks: whether a record is one that is sealed. -/
import Derived.Test.YtpedkkmoplbdhaaDoorAcidSum
import Derived.Test.YtpedkkmoplbdhaaDoorTop
namespace Go.Proofs.YtpedkkmoplbdhaaDoor
open Go.RowKit Go.Cv
set_option maxRecDepth 100000
set_option linter.unusedVariables false
theorem sealedYes (ct maj mn ep sq cl : Nat) (cid : List UInt8) (A : Option Addr) (n c : Nat) (b : Bool) (h1 : ((ct : Int) == 20) = false) (h1' : ¬ ct = 20) (h2 : ((ct : Int) == 25) = false) (h2' : ¬ ct = 25) (h3 : decide ((sq : Int) ≤ 281474976710655) = true) (h3' : sq ≤ 281474976710655) (w : World) (HF : Hid (∀ W, Below w.heap.size w W → Calls Tryd.prog 9 #[.slice A n c] W fun e w' => e = .returned (.bool b) ∧ W = w')) :
    Calls Tryd.prog 17 #[.agg (recRow ct maj mn ep sq cl cid), .slice A n c] w fun e w' => e = .returned (.bool b) ∧ Below w.heap.size w w' := by
  have n1 : ¬ (ct : Int) = 20 := by omega
  have n2 : ¬ (ct : Int) = 25 := by omega
  unfold recRow
  go_enter Tryd.func17, Tryd.ntmps17
  go_wp2_with fail
  refine (HF.out _ (below_alloc _ _)).mono ?_
  rintro e w1 ⟨rfl, rfl⟩
  go_wp2_with fail
  go_ret
  exact ⟨by simp [bne, h1, h2], below_alloc _ _⟩
theorem sealed20 (maj mn ep sq cl : Nat) (cid : List UInt8) (A : Option Addr) (n c : Nat) (w : World) :
    Calls Tryd.prog 17 #[.agg (recRow 20 maj mn ep sq cl cid), .slice A n c] w fun e w' => e = .returned (.bool false) ∧ Below w.heap.size w w' := by
  unfold recRow
  go_enter Tryd.func17, Tryd.ntmps17
  go_wp2_with fail
  go_ret
  exact ⟨by first | rfl | simp, below_alloc _ _⟩
theorem sealed25 (maj mn ep sq cl : Nat) (cid : List UInt8) (A : Option Addr) (n c : Nat) (w : World) :
    Calls Tryd.prog 17 #[.agg (recRow 25 maj mn ep sq cl cid), .slice A n c] w fun e w' => e = .returned (.bool false) ∧ Below w.heap.size w w' := by
  unfold recRow
  go_enter Tryd.func17, Tryd.ntmps17
  go_wp2_with fail
  go_ret
  exact ⟨by first | rfl | simp, below_alloc _ _⟩
theorem sealedLate (ct maj mn ep sq cl : Nat) (cid : List UInt8) (A : Option Addr) (n c : Nat) (h1 : ((ct : Int) == 20) = false) (h1' : ¬ ct = 20) (h2 : ((ct : Int) == 25) = false) (h2' : ¬ ct = 25) (h3 : decide ((sq : Int) ≤ 281474976710655) = false) (h3' : ¬ sq ≤ 281474976710655) (w : World) :
    Calls Tryd.prog 17 #[.agg (recRow ct maj mn ep sq cl cid), .slice A n c] w fun e w' => e = .returned (.bool false) ∧ Below w.heap.size w w' := by
  have n1 : ¬ (ct : Int) = 20 := by omega
  have n2 : ¬ (ct : Int) = 25 := by omega
  unfold recRow
  go_enter Tryd.func17, Tryd.ntmps17
  go_wp2_with fail
  go_ret
  exact ⟨by first | rfl | simp [bne, h1, h2], below_alloc _ _⟩
end Go.Proofs.YtpedkkmoplbdhaaDoor
