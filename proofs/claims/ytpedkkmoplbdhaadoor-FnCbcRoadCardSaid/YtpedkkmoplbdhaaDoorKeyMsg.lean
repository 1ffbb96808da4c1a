/- Walks: the message that a server signs about its key. -/
import Derived.Test.YtpedkkmoplbdhaaDoorBig
import Derived.Test.YtpedkkmoplbdhaaDoorBase
import Derived.Deep.RegionHeld3
namespace Go.Proofs.YtpedkkmoplbdhaaDoor
open Go.RowKit Go.Cv
set_option maxRecDepth 100000
set_option linter.unusedVariables false
theorem be2 (n : Nat) : vs (be 2 n) = [.int .u8 ((n : Int) / 256 % 256), .int .u8 ((n : Int) % 256)] := by
  simp [be, vs]
theorem be1 (n : Nat) : vs (be 1 n) = [.int .u8 ((n : Int) % 256)] := by
  simp [be, vs]
def keyHead (n m : Nat) : List UInt8 := 3 :: (be 2 n ++ be 1 m)
theorem keyHead_length (n m : Nat) : (keyHead n m).length = 4 := by simp [keyHead, be_length]
theorem keyHead_vs (n m : Nat) : vs (keyHead n m) = [.int .u8 3, .int .u8 ((n : Int) / 256 % 256), .int .u8 ((n : Int) % 256), .int .u8 ((m : Int) % 256)] := by
  simp [keyHead, be, vs]
def keyText (l1 l2 l3 : List UInt8) (n : Nat) : List UInt8 := l1 ++ l2 ++ keyHead n l3.length ++ l3
theorem keyTwo_any (n : Nat) (hn : (n : Int) < 65536) (w : World) :
    Calls Tryd.prog 90 #[.int .i64 n] w fun e w' => e = .returned (.string (S (be 2 n))) ∧ Below w.heap.size w w' := by
  have h1 : (n : Int) / 256 % 256 = (n : Int) / 256 := by omega
  clear hn
  go_enter Tryd.func90, Tryd.ntmps90
  go_wp2_with fail
  refine upon_conv_bs 51 9 5 Tryd.underlying51 Tryd.underlying5 Tryd.underlying9 (be 2 n) _ _ _ (be_length _ _) (by rw [be2, h1]; exact rd_pair _ _ _ _) ?_
  go_wp2_with fail
  go_ret
  exact ⟨rfl, below_alloc _ _⟩
end Go.Proofs.YtpedkkmoplbdhaaDoor
