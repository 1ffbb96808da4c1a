/- More laws of the walks. -/
import Derived.Test.YtpedkkmoplbdhaaDoorOps2
namespace Go.Cv
open Go.RowKit
set_option linter.unusedVariables false
section
variable {P : Program} {ops : Array Oper} {rest : List Oper} {a : Act} {Q : Exit → Act → World → Prop} {w : World} {dst : Option Tmp} {ty0 : TypeId} {pos : String} {after : Array Edge}
/-- A store into a variable that was made just before, its number as the walk writes it. -/
theorem held_store_at {W : World} {g : Nat} (hW : W.heap.size = g) {ty : TypeId} {x y : Operand} {cells : Array Value} {t : TypeId} {old : Array Value} (hi : (P.info? ty).map (·.size) = some cells.size)
    (hx : a.eval x = .pointer (some ⟨g, 0, none⟩)) (hy : a.eval y = .agg cells) (hold : old.size = cells.size) (h1 : cells.all (·.oneCell') = true)
    (h : ∀ w', Blk w' g t cells → Below W.heap.size W w' → w'.heap.size = g + 1 → wpList P ops Q rest (a.put dst undef) w') :
    Held (wpList P ops Q ({ dst := dst, op := .store ty x y, type := ty0, pos := pos, after := after, guard := none } :: rest) a (W.alloc (.cells old t))) := by
  subst hW
  exact held_store_new hi hx hy hold h1 h
end
theorem own_made0 (w : World) (e : Nat) : Own (w.alloc (.cells #[] e)) w.heap.size 1 (some ⟨w.heap.size, 0, none⟩) 0 0 [] := Own.empty _ _ _ _
theorem below_alloc (w : World) (o : Obj) : Below w.heap.size w (w.alloc o) := (Below.refl _ w).alloc (Nat.le_refl _) o
theorem below_drew (w : World) : Below w.heap.size w w.drew := (Below.refl _ w).drew
/-- What was appended to a row that was made just before. -/
theorem below_append_new {w w1 : World} {o : Obj} (hg : (w.alloc o).grownBy w1 (some w.heap.size)) : Below w.heap.size w w1 :=
  below_of_grown (below_alloc w o) hg (by simp) (Nat.le_refl _)
theorem Blk.drew {w : World} {g : Nat} {t : TypeId} {cs : Array Value} (h : Blk w g t cs) : Blk w.drew g t cs := h
end Go.Cv
