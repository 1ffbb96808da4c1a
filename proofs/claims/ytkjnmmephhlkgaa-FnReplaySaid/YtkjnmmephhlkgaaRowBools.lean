/- An argument that is a slice of truths, opened. -/
import Derived.Test.YtkjnmmephhlkgaaRow
import Derived.Deep.Slices
namespace Go.Cv
open Go.RowKit Go.ChangeShapes Go.WideShapes Go.ChangeAt
set_option linter.unusedVariables false
def boolV : Value → Bool
  | .bool b => b
  | _ => false
theorem rd_bools {H : Type} {enc : TypeId × Value → H} {P : Program} {W : World} {t e : TypeId} {A : Option Addr} {n c : Nat} {d : DataW H} {p : List MemPlace} (ht : P.underlying t = some (.slice e)) (he : P.underlying e = some .bool) (hc : P.cellsOf e = 1)
    (h : DataW.Trod enc P W 0 (fun _ => true) true t (.slice A n c) d p) :
    ∃ zs : List Bool, zs.length = n ∧ n ≤ c ∧ Rd W A (zs.map Value.bool) := by
  obtain ⟨fuel, hf⟩ := h
  rcases Go.Deep.open_slice ht hf with ⟨hcs, _⟩ | ⟨a, len, cap, m, k, D, Pl, hcs, _, hl, hm, hmm, _, hx⟩
  · simp [Value.cells] at hcs
    obtain ⟨rfl, rfl, rfl⟩ := hcs
    exact ⟨[], rfl, Nat.le_refl _, .inl rfl⟩
  · simp [Value.cells] at hcs
    obtain ⟨rfl, rfl, rfl⟩ := hcs
    simp only [if_true] at hmm
    subst hmm
    have hb : ∀ i, i < n → ∃ x, W.cell? (a.add i) = some (.bool x) := fun i hi => by
      obtain ⟨cs', h1, h2⟩ := hx i (by omega)
      rw [hc] at h1
      obtain ⟨_, hlen, hcell⟩ := World.cells?_some h1
      obtain ⟨x, rfl, _⟩ := DataW.trod_bool he h2
      have := hcell 0 (by omega)
      rw [Nat.mul_one, Go.Deep.add_add] at this
      exact ⟨x, by simpa using this⟩
    refine ⟨(List.range n).map fun i => boolV ((W.cell? (a.add i)).getD .nilIface), by simp, hl, ?_⟩
    by_cases hn : n = 0
    · subst hn; exact .inl rfl
    · obtain ⟨x0, h0⟩ := hb 0 (by omega)
      have ha : a.add 0 = a := by simp [Addr.add]
      rw [ha] at h0
      have hp := plain_addr h0
      refine .inr ⟨a.block, a.off, by rw [← hp], fun j v hj => ?_⟩
      rw [List.map_map, List.getElem?_map] at hj
      have hjn : j < n := by
        rcases Nat.lt_or_ge j n with h' | h'
        · exact h'
        · rw [List.getElem?_eq_none (by simp; omega)] at hj; simp at hj
      obtain ⟨x, hxx⟩ := hb j hjn
      rw [List.getElem?_eq_getElem (by simp; exact hjn)] at hj
      simp [hxx, boolV] at hj
      rw [← hj]
      have e : a.add j = ⟨a.block, a.off + j, none⟩ := by rw [← add_lit]; exact congrArg (fun q => Addr.add q j) hp
      rw [← e]
      exact hxx
end Go.Cv
