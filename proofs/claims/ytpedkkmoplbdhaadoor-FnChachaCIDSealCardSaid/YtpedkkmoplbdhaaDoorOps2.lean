/- More laws of our own: strings indexed and cut, blocks stored into: no program text. -/
import Derived.Test.YtpedkkmoplbdhaaDoorOps
namespace Go.Cv
open Go.RowKit

theorem S_get (l : List UInt8) (i : Nat) (h : i < l.length) : (S l)[i]? = some (l.getD i 0) := by
  have hs : i < (S l).size := by rw [S_size]; exact h
  rw [getElem?_pos (S l) i hs]
  show some (l.toArray[i]'_) = _
  simp only [List.getD, List.getElem?_eq_getElem h, Option.getD_some]
  rfl
section
variable {P : Program}
/-- 's[i]'. -/
theorem run_index_S (w : World) (t : TypeId) (ht : P.underlying t = some .string) (l : List UInt8) (k : IntKind) (x : Int) (i : Nat) (hx : x = i) (h : i < l.length) :
    (Instr.index t (.string (S l)) (.int k x)).run P w = .ok (.int .u8 (l.getD i 0).toNat) w := by
  subst hx
  simp [Instr.index, asIntOf, run_underlying ht, S_get l i h]
theorem S_extract (l : List UInt8) (a b : Nat) : (S l).extract a b = S ((l.take b).drop a) := by
  have h : ((S l).extract a b).data = (S ((l.take b).drop a)).data := by
    rw [ByteArray.data_extract]
    simp [S, List.drop_take]
  cases hh : (S l).extract a b with
  | mk d =>
    rw [hh] at h
    simp only [S] at h ⊢
    rw [h]
end

/-! ### a row with a store -/
theorem below_of_grown {B : Nat} {w0 w w' : World} {g : Nat} (hb : Below B w0 w) (hg : w.grownBy w' (some g)) (hB : B ≤ w.heap.size) (hBg : B ≤ g) : Below B w0 w' :=
  hb.grown hg hB (fun k hk => by simp at hk; omega)
theorem grown_set (w : World) (g i : Nat) (u : Value) : w.grownBy (w.setCell ⟨g, i, none⟩ u) (some g) :=
  ⟨rfl, rfl, rfl, by simp, fun k _ hk => Below.heap_setCell _ _ _ _ (fun e => hk (by rw [e]))⟩
theorem grown_trans {w w1 w2 : World} {row : Option Nat} (h1 : w.grownBy w1 row) (h2 : w1.grownBy w2 row) : w.grownBy w2 row :=
  ⟨h2.os.trans h1.os, h2.tape.trans h1.tape, h2.output.trans h1.output, Nat.le_trans h1.size h2.size,
    fun k hk hne => (h2.block k (Nat.lt_of_lt_of_le hk h1.size) hne).trans (h1.block k hk hne)⟩
theorem grown_of_below {w w' : World} (h : Below w.heap.size w w') (row : Option Nat) : w.grownBy w' row := ⟨h.os, h.tape, h.output, h.size, fun k hk _ => h.block k hk⟩
end Go.Cv
