/- A field that is a slice of pairs of numbers (ints), opened. -/
import Derived.Test.YtadblfnggmaadaaDoorFgU
import Derived.Test.YtadblfnggmaadaaDoorBase
import Derived.Deep.SlicePairs
namespace Go.Proofs.YtadblfnggmaadaaDoor
open Go.RowKit Go.Cv Go.ChangeShapes Go.WideShapes Go.ChangeAt
set_option linter.unusedVariables false
theorem ipv_of (zs : List (Int × Int)) (j : Nat) (v : Value) (hj : (rowsOf ipv zs)[j]? = some v) : ∃ h s, zs[j / 2]? = some (h, s) ∧ ((j = j / 2 * 2 ∧ v = .int .i64 h) ∨ (j = j / 2 * 2 + 1 ∧ v = .int .i64 s)) := by
  have hl : j < (rowsOf ipv zs).length := (List.getElem?_eq_some_iff.1 hj).1
  rw [rowsOf_length ipv 2 ipv_length] at hl
  have hi : j / 2 < zs.length := by omega
  obtain ⟨⟨h, s⟩, hv⟩ : ∃ p, zs[j / 2]? = some p := ⟨_, List.getElem?_eq_getElem hi⟩
  have h1 := rowsOf_get ipv 2 ipv_length zs (j / 2) (h, s) 0 hv (by omega)
  have h2 := rowsOf_get ipv 2 ipv_length zs (j / 2) (h, s) 1 hv (by omega)
  refine ⟨h, s, hv, ?_⟩
  by_cases he : j = j / 2 * 2
  · rw [Nat.add_zero, ← he, hj] at h1
    exact .inl ⟨he, by simpa [ipv] using h1⟩
  · have he' : j = j / 2 * 2 + 1 := by omega
    rw [← he', hj] at h2
    exact .inr ⟨he', by simpa [ipv] using h2⟩
theorem field_ipairs {H : Type} {enc : TypeId × Value → H} {P : Program} {W : World} {t e : TypeId} {f0 f1 : Field} {cs : Array Value} {k m : Nat} {ys : List (DataW H × List MemPlace)} (ht : P.underlying t = some (.slice e)) (he : P.underlying e = some (.struct #[f0, f1]))
    (ce : P.cellsOf e = 2) (o0 : f0.offset = 0) (o1 : f1.offset = 1) (c0 : P.cellsOf f0.type = 1) (c1 : P.cellsOf f1.type = 1) (u0 : P.underlying f0.type = some (.int .i64)) (u1 : P.underlying f1.type = some (.int .i64))
    (h : ∃ v y, cs[k]? = some v ∧ ys[k]? = some y ∧ DataW.trod enc P W 0 (fun _ => true) true m t [v] = some y) :
    ∃ (A : Option Addr) (n c : Nat) (zs : List (Int × Int)), cs[k]? = some (.slice A n c) ∧ zs.length = n ∧ n ≤ c ∧ Rd W A (rowsOf ipv zs) := by
  obtain ⟨v, y, h1, _, hf⟩ := h
  rcases Go.Deep.open_slice_pairs ht he ce o0 o1 c0 c1 hf with ⟨hcs, _⟩ | ⟨a, len, cap, m, q, V0, V1, D0, D1, P0, P1, hcs, _, hl, hm, hmm, _, hcell⟩
  · simp at hcs
    subst hcs
    exact ⟨none, 0, 0, [], h1, rfl, Nat.le_refl _, .inl rfl⟩
  · simp at hcs
    subst hcs
    simp only [if_true] at hmm
    subst hmm
    have hint : ∀ i, i < len → ∃ xy : Int × Int, V0 i = .int .i64 xy.1 ∧ V1 i = .int .i64 xy.2 := fun i hi => by
      obtain ⟨_, _, g0, g1⟩ := hcell i (by omega)
      obtain ⟨x, hx, _, hw⟩ := DataW.trod_int u0 g0
      obtain ⟨y, hy, _, hw'⟩ := DataW.trod_int u1 g1
      simp at hx hy
      exact ⟨(x, y), hx, hy⟩
    have hex : ∃ g : Nat → Int × Int, ∀ i, i < len → V0 i = .int .i64 (g i).1 ∧ V1 i = .int .i64 (g i).2 := by
      have h2 : ∀ i, ∃ xy : Int × Int, i < len → V0 i = .int .i64 xy.1 ∧ V1 i = .int .i64 xy.2 := fun i => by
        by_cases hi : i < len
        · obtain ⟨xy, h⟩ := hint i hi
          exact ⟨xy, fun _ => h⟩
        · exact ⟨(0, 0), fun h => absurd h hi⟩
      exact Classical.axiomOfChoice h2
    obtain ⟨g, hg⟩ := hex
    refine ⟨some a, len, _, (List.range len).map g, h1, by simp, hl, ?_⟩
    by_cases hn : len = 0
    · subst hn; exact .inl rfl
    · have h0 := (hcell 0 (by omega)).1
      have ha : a.add (0 * 2) = a := by simp [Addr.add]
      rw [ha] at h0
      have hp := plain_addr h0
      refine .inr ⟨a.block, a.off, by rw [← hp], fun j v hj => ?_⟩
      obtain ⟨hh, ss, hz, hv⟩ := ipv_of _ j v hj
      obtain ⟨hlt, hzz⟩ := List.getElem?_eq_some_iff.1 hz
      simp at hlt hzz
      obtain ⟨hx, hy⟩ := hg (j / 2) hlt
      rw [hzz] at hx hy
      obtain ⟨g0, g1, _, _⟩ := hcell (j / 2) (by omega)
      rw [hp, add_lit] at g0 g1
      rcases hv with ⟨hj', rfl⟩ | ⟨hj', rfl⟩
      · rw [← hj'] at g0
        rw [g0, hx]
      · rw [← hj'] at g1
        rw [g1, hy]
theorem part_cells {cs : Array Value} {x : Int} {l : List UInt8} {A : Option Addr} {n c : Nat} (hk : cs.size = 3) (e0 : cs[0]? = some (.int .u8 x)) (e1 : cs[1]? = some (.string (S l))) (e2 : cs[2]? = some (.slice A n c)) : cs = #[.int .u8 x, .string (S l), .slice A n c] := by
  apply Array.ext_getElem?
  intro i
  match i with
  | 0 => rw [e0]; rfl
  | 1 => rw [e1]; rfl
  | 2 => rw [e2]; rfl
  | i + 3 => rw [Array.getElem?_eq_none (by omega)]; rfl
end Go.Proofs.YtadblfnggmaadaaDoor
