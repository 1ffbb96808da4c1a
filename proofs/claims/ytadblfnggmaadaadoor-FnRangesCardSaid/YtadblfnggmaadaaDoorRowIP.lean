/- An argument that is a slice of pairs of numbers (ints), opened; the row's form of the law of the pieces. -/
import Derived.Test.YtadblfnggmaadaaDoorRgM
import Derived.Test.YtadblfnggmaadaaDoorBase
import Derived.Deep.SlicePairs
namespace Go.Proofs.YtadblfnggmaadaaDoor
open Go.RowKit Go.Cv Go.ChangeShapes Go.WideShapes Go.ChangeAt
set_option linter.unusedVariables false
theorem pcv_of (zs : List (Int × Int)) (j : Nat) (v : Value) (hj : (rowsOf pcv zs)[j]? = some v) : ∃ h s, zs[j / 2]? = some (h, s) ∧ ((j = j / 2 * 2 ∧ v = .int .i64 h) ∨ (j = j / 2 * 2 + 1 ∧ v = .int .i64 s)) := by
  have hl : j < (rowsOf pcv zs).length := (List.getElem?_eq_some_iff.1 hj).1
  rw [rowsOf_length pcv 2 pcv_length] at hl
  have hi : j / 2 < zs.length := by omega
  obtain ⟨⟨h, s⟩, hv⟩ : ∃ p, zs[j / 2]? = some p := ⟨_, List.getElem?_eq_getElem hi⟩
  have h1 := rowsOf_get pcv 2 pcv_length zs (j / 2) (h, s) 0 hv (by omega)
  have h2 := rowsOf_get pcv 2 pcv_length zs (j / 2) (h, s) 1 hv (by omega)
  refine ⟨h, s, hv, ?_⟩
  by_cases he : j = j / 2 * 2
  · rw [Nat.add_zero, ← he, hj] at h1
    exact .inl ⟨he, by simpa [pcv] using h1⟩
  · have he' : j = j / 2 * 2 + 1 := by omega
    rw [← he', hj] at h2
    exact .inr ⟨he', by simpa [pcv] using h2⟩
theorem rd_ipairs {H : Type} {enc : TypeId × Value → H} {P : Program} {W : World} {t e : TypeId} {f0 f1 : Field} {A : Option Addr} {n c : Nat} {d : DataW H} {p : List MemPlace} (ht : P.underlying t = some (.slice e)) (he : P.underlying e = some (.struct #[f0, f1]))
    (ce : P.cellsOf e = 2) (o0 : f0.offset = 0) (o1 : f1.offset = 1) (c0 : P.cellsOf f0.type = 1) (c1 : P.cellsOf f1.type = 1) (u0 : P.underlying f0.type = some (.int .i64)) (u1 : P.underlying f1.type = some (.int .i64))
    (h : DataW.Trod enc P W 0 (fun _ => true) true t (.slice A n c) d p) :
    ∃ zs : List (Int × Int), zs.length = n ∧ n ≤ c ∧ Rd W A (rowsOf pcv zs) := by
  obtain ⟨fuel, hf⟩ := h
  rcases Go.Deep.open_slice_pairs ht he ce o0 o1 c0 c1 hf with ⟨hcs, _⟩ | ⟨a, len, cap, m, k, V0, V1, D0, D1, P0, P1, hcs, _, hl, hm, hmm, _, hcell⟩
  · simp [Value.cells] at hcs
    obtain ⟨rfl, rfl, rfl⟩ := hcs
    exact ⟨[], rfl, Nat.le_refl _, .inl rfl⟩
  · simp [Value.cells] at hcs
    obtain ⟨rfl, rfl, rfl⟩ := hcs
    simp only [if_true] at hmm
    subst hmm
    have hint : ∀ i, i < n → ∃ xy : Int × Int, V0 i = .int .i64 xy.1 ∧ V1 i = .int .i64 xy.2 := fun i hi => by
      obtain ⟨_, _, g0, g1⟩ := hcell i (by omega)
      obtain ⟨x, hx, _, hw⟩ := DataW.trod_int u0 g0
      obtain ⟨y, hy, _, hw'⟩ := DataW.trod_int u1 g1
      simp at hx hy
      exact ⟨(x, y), hx, hy⟩
    have hex : ∃ g : Nat → Int × Int, ∀ i, i < n → V0 i = .int .i64 (g i).1 ∧ V1 i = .int .i64 (g i).2 := by
      have h2 : ∀ i, ∃ xy : Int × Int, i < n → V0 i = .int .i64 xy.1 ∧ V1 i = .int .i64 xy.2 := fun i => by
        by_cases hi : i < n
        · obtain ⟨xy, h⟩ := hint i hi
          exact ⟨xy, fun _ => h⟩
        · exact ⟨(0, 0), fun h => absurd h hi⟩
      exact Classical.axiomOfChoice h2
    obtain ⟨g, hg⟩ := hex
    refine ⟨(List.range n).map g, by simp, hl, ?_⟩
    by_cases hn : n = 0
    · subst hn; exact .inl rfl
    · have h0 := (hcell 0 (by omega)).1
      have ha : a.add (0 * 2) = a := by simp [Addr.add]
      rw [ha] at h0
      have hp := plain_addr h0
      refine .inr ⟨a.block, a.off, by rw [← hp], fun j v hj => ?_⟩
      obtain ⟨hh, ss, hz, hv⟩ := pcv_of _ j v hj
      obtain ⟨hlt, hzz⟩ := List.getElem?_eq_some_iff.1 hz
      simp at hlt hzz
      obtain ⟨hx, hy⟩ := hg (j / 2) hlt
      rw [hzz] at hx hy
      obtain ⟨g0, g1, _, _⟩ := hcell (j / 2) (by omega)
      rw [hp, add_lit] at g0 g1
      rcases hv with ⟨hj', rfl⟩ | ⟨hj', rfl⟩
      · rw [← hj'] at g0
        rw [g0, hx]
      · rw [← hj'] at g1
        rw [g1, hy]
theorem ranges_row (body : List UInt8) (A : Option Addr) (n c : Nat) (ps : List (Int × Int)) (hn : ps.length = n) (hnc : n ≤ c) (w : World) (hr : Rd w A (rowsOf pcv ps)) (A2 : Option Addr) (m c2 : Nat) (avs : List Int) (hm : avs.length = m) (hmc : m ≤ c2)
    (hr2 : Rd w A2 (avs.map (Value.int .i64))) {q : Prop} (hw2 : q) (ad : Addr) (hev : w.cell? ⟨0, 0, none⟩ = some (.iface 131 (.pointer (some ad)))) :
    Calls Tryd.prog 3 #[.string (S body), .slice A n c, .slice A2 m c2] w fun e w' => e = .returned (.bool true) ∧ Below w.heap.size w w' := rangesLaw body A n c ps hn hnc A2 m c2 avs hm hmc ad w hr hr2 hev
end Go.Proofs.YtadblfnggmaadaaDoor
