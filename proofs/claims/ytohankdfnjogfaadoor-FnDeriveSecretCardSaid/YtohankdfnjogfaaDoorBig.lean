/- Walks of the laws' small helpers: big, vec, framedExt, text, PutUint16. -/
import Derived.Test.YtohankdfnjogfaaDoorProg
import Derived.Test.YtohankdfnjogfaaDoorOps
import Derived.LoopTactic
namespace Go.Proofs.YtohankdfnjogfaaDoor
open Go.RowKit Go.Cv
set_option maxRecDepth 100000
set_option linter.unusedVariables false
theorem u8info : (Tryd.prog.info? 5).map (fun i => (i.zero, i.size, i.bytes)) = some (some (.int .u8 0), 1, 1) := by kernel_rfl
def be : Nat → Nat → List UInt8
  | 0, _ => []
  | i + 1, n => UInt8.ofNat (n / 256 ^ i) :: be i n
theorem be_length (k n : Nat) : (be k n).length = k := by
  induction k with
  | zero => rfl
  | succ k ih => simp [be, ih]
theorem be_step (k j n : Nat) (hj : j < k) : (List.replicate (k - j) (Value.int .u8 0) ++ vs (be j n)).set (k - 1 - j) (.int .u8 ((n : Int) / 256 ^ j % 256)) =
    List.replicate (k - (j + 1)) (Value.int .u8 0) ++ vs (be (j + 1) n) := by
  have h1 : k - j = (k - (j + 1)) + 1 := by omega
  have h2 : k - 1 - j = k - (j + 1) := by omega
  rw [h1, h2, List.replicate_succ', List.append_assoc, List.set_append_right _ _ (by simp)]
  simp only [List.length_replicate, Nat.sub_self]
  congr 1

theorem text_any (A : Option Addr) (n c : Nat) (l : List UInt8) (hl : l.length = n) (w : World) (hr : Rd w A (vs l)) :
    Calls Tryd.prog 10 #[.slice A n c, .nilIface] w fun e w' => e = .returned (.tuple #[.string (S l), .bool true]) ∧ w = w' := by
  go_enter Tryd.func10, Tryd.ntmps10
  go_wp2_with fail
  refine upon_conv_bs 30 9 5 Tryd.underlying30 Tryd.underlying5 Tryd.underlying9 l A n c hl hr ?_
  go_wp2_with fail
  go_ret2
  exact ⟨rfl, rfl⟩
end Go.Proofs.YtohankdfnjogfaaDoor
