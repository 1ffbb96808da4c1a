/- Walks: binary.BigEndian.Uint16. -/
import Derived.Test.YtadblfnggmaadaaDoorBase
import Derived.Test.YtadblfnggmaadaaDoorProg
import Derived.Deep.RegionHeld3
import Derived.Laws.BitsAllLaws
namespace Go.Proofs.YtadblfnggmaadaaDoor
open Go.RowKit Go.Cv
set_option maxRecDepth 100000
set_option linter.unusedVariables false
theorem or_mul256 (a b : Nat) (h : a < 256) : a ||| (b * 256) = b * 256 + a := by
  have : (256 : Nat) = 2 ^ 8 := rfl
  rw [this, Nat.or_comm, ← Nat.shiftLeft_eq, Nat.shiftLeft_add_eq_or_of_lt h]
theorem be16_or (p q : Nat) (hp : (p : Int) < 256) (hq : (q : Int) < 256) : bits BinOp.or IntKind.u16 (q : Int) ((p : Int) * 256) = ((p * 256 + q : Nat) : Int) := by
  have e : ((p : Int) * 256) = ((p * 256 : Nat) : Int) := by omega
  rw [e, u16_or_nat q (p * 256) (by omega) (by omega), or_mul256 q p (by omega)]
theorem u16_any (b o n c : Nat) (p q : Nat) (hp : (p : Int) < 256) (hq : (q : Int) < 256) (hn : (2 : Int) ≤ n) (w : World) (h0 : w.cell? ⟨b, o, none⟩ = some (.int .u8 p)) (h1 : w.cell? ⟨b, o + 1, none⟩ = some (.int .u8 q)) :
    Calls Tryd.prog 48 #[.agg #[], .slice (some ⟨b, o, none⟩) n c] w fun e w' => e = .returned (.int .u16 ((p * 256 + q : Nat) : Int)) ∧ Below w.heap.size w w' := by
  have i1 : (0 : Int) < n := by omega
  have i2 : (1 : Int) < n := by omega
  have hb0 := block_lt h0
  have hb1 : b < w.heap.size := hb0
  go_enter Tryd.func48, Tryd.ntmps48
  go_wp2_with fail
  go_quiet (fail)
  go_wp2_with fail
  go_ret
  refine ⟨?_, (below_alloc w _).trans ⟨rfl, rfl, rfl, Nat.le_refl _, fun _ _ => rfl⟩⟩
  have hh := be16_or p q hp hq
  show Ending.returned (.int .u16 (bits BinOp.or IntKind.u16 (↑q) (↑p * 256))) = _
  rw [hh]
end Go.Proofs.YtadblfnggmaadaaDoor
