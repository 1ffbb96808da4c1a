/- An argument that is a slice of pairs of texts, opened. -/
import Derived.Test.YtfelfjdgmjapnaaDoorFil
import Derived.Test.YtfelfjdgmjapnaaDoorRow
import Derived.Deep.SlicePairs
namespace Go.Proofs.YtfelfjdgmjapnaaDoor
open Go.RowKit Go.Cv Go.ChangeShapes Go.WideShapes Go.ChangeAt
set_option linter.unusedVariables false
def txtV : Value → List UInt8
  | .string s => s.data.toList
  | _ => []
theorem fv_of (zs : List (List UInt8 × List UInt8)) (j : Nat) (v : Value) (hj : (fv zs)[j]? = some v) : ∃ h s, zs[j / 2]? = some (h, s) ∧ ((j = j / 2 * 2 ∧ v = .string (S h)) ∨ (j = j / 2 * 2 + 1 ∧ v = .string (S s))) := by
  have hl : j < (fv zs).length := (List.getElem?_eq_some_iff.1 hj).1
  rw [fv_length] at hl
  have hi : j / 2 < zs.length := by omega
  obtain ⟨⟨h, s⟩, hv⟩ : ∃ p, zs[j / 2]? = some p := ⟨_, List.getElem?_eq_getElem hi⟩
  obtain ⟨h1, h2⟩ := fv_at zs (j / 2) h s hv
  refine ⟨h, s, hv, ?_⟩
  by_cases he : j = j / 2 * 2
  · rw [he] at hj
    have e2 : j / 2 * 2 / 2 = j / 2 := by omega
    rw [h1] at hj
    exact .inl ⟨he, (Option.some.inj hj).symm⟩
  · have he' : j = j / 2 * 2 + 1 := by omega
    rw [he'] at hj
    rw [h2] at hj
    exact .inr ⟨he', (Option.some.inj hj).symm⟩
theorem rd_filters {H : Type} {enc : TypeId × Value → H} {P : Program} {W : World} {t e : TypeId} {f0 f1 : Field} {A : Option Addr} {n c : Nat} {d : DataW H} {p : List MemPlace} (ht : P.underlying t = some (.slice e)) (he : P.underlying e = some (.struct #[f0, f1]))
    (ce : P.cellsOf e = 2) (o0 : f0.offset = 0) (o1 : f1.offset = 1) (c0 : P.cellsOf f0.type = 1) (c1 : P.cellsOf f1.type = 1) (u0 : P.underlying f0.type = some .string) (u1 : P.underlying f1.type = some .string)
    (h : DataW.Trod enc P W 0 (fun _ => true) true t (.slice A n c) d p) :
    ∃ zs : List (List UInt8 × List UInt8), zs.length = n ∧ n ≤ c ∧ Rd W A (fv zs) := by
  obtain ⟨fuel, hf⟩ := h
  rcases Go.Deep.open_slice_pairs ht he ce o0 o1 c0 c1 hf with ⟨hcs, _⟩ | ⟨a, len, cap, m, k, V0, V1, D0, D1, P0, P1, hcs, _, hl, hm, hmm, _, hcell⟩
  · simp [Value.cells] at hcs
    obtain ⟨rfl, rfl, rfl⟩ := hcs
    exact ⟨[], rfl, Nat.le_refl _, .inl rfl⟩
  · simp [Value.cells] at hcs
    obtain ⟨rfl, rfl, rfl⟩ := hcs
    simp only [if_true] at hmm
    subst hmm
    have hint : ∀ i, i < n → (∃ x : List UInt8, V0 i = .string (S x)) ∧ (∃ x : List UInt8, V1 i = .string (S x)) := fun i hi => by
      obtain ⟨_, _, g0, g1⟩ := hcell i (by omega)
      obtain ⟨x, hx, _⟩ := DataW.trod_string u0 g0
      obtain ⟨y, hy, _⟩ := DataW.trod_string u1 g1
      obtain ⟨x', rfl⟩ := S_of x
      obtain ⟨y', rfl⟩ := S_of y
      simp at hx hy
      exact ⟨⟨x', hx⟩, ⟨y', hy⟩⟩
    refine ⟨(List.range n).map fun i => (txtV (V0 i), txtV (V1 i)), by simp, hl, ?_⟩
    by_cases hn : n = 0
    · subst hn; exact .inl rfl
    · have h0 := (hcell 0 (by omega)).1
      have ha : a.add (0 * 2) = a := by simp [Addr.add]
      rw [ha] at h0
      have hp := plain_addr h0
      refine .inr ⟨a.block, a.off, by rw [← hp], fun j v hj => ?_⟩
      obtain ⟨hh, ss, hz, hv⟩ := fv_of _ j v hj
      obtain ⟨hlt, hzz⟩ := List.getElem?_eq_some_iff.1 hz
      simp at hlt hzz
      obtain ⟨rfl, rfl⟩ := hzz
      obtain ⟨⟨x, hx⟩, ⟨y, hy⟩⟩ := hint (j / 2) hlt
      obtain ⟨g0, g1, _, _⟩ := hcell (j / 2) (by omega)
      rw [hp, add_lit] at g0 g1
      rcases hv with ⟨hj', rfl⟩ | ⟨hj', rfl⟩
      · rw [← hj'] at g0
        rw [g0, hx]; rfl
      · rw [← hj'] at g1
        rw [g1, hy]; rfl
end Go.Proofs.YtfelfjdgmjapnaaDoor
