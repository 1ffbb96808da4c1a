/- What a row gives of a variable that holds a struct of two numbers. -/
import Derived.Test.YtmappdbodnlepaaDoorRow
namespace Go.Cv
open Go.RowKit Go.ChangeShapes Go.WideShapes Go.ChangeAt
set_option linter.unusedVariables false
theorem pair_cell {P : Program} {n : String} {k : IntKind} {a b : Int} {l : List (String × DataW Unit)} {W : World} {g : Nat} {ti : TypeId} {f0 f1 : Field}
    (hm : laidMet P l W) (hin : (n, DataW.agg [.lit (.int k a), .lit (.int k b)]) ∈ l)
    (hg : P.globalNamed n = some g) (ht : (P.globals[g]?).map (·.type) = some ti) (hs : P.underlying ti = some (.struct #[f0, f1])) (h0 : P.underlying f0.type = some (.int k)) (h1 : P.underlying f1.type = some (.int k))
    (o0 : f0.offset = 0) (o1 : f1.offset = 1) (c0 : P.cellsOf f0.type = 1) (c1 : P.cellsOf f1.type = 1) :
    W.cell? ⟨g, 0, none⟩ = some (.int k a) ∧ W.cell? ⟨g, 1, none⟩ = some (.int k b) := by
  induction l with
  | nil => cases hin
  | cons x r ih =>
    rcases List.mem_cons.1 hin with rfl | hin'
    · obtain ⟨ps, ⟨g0, t0, cs0, fu, p0, q0, hg0, ht0, hv0, hd0, _, _⟩, _, _⟩ := hm
      obtain rfl := Option.some.inj (hg.symm.trans hg0)
      obtain rfl := Option.some.inj (ht.symm.trans ht0)
      obtain ⟨y0, y1, m, hx, _, e0, e1⟩ := trod_struct2 hs hd0
      rw [o0, c0] at e0
      rw [o1, c1] at e1
      obtain ⟨x0, q0, r0, _⟩ := DataW.trod_int h0 e0
      obtain ⟨x1, q1, r1, _⟩ := DataW.trod_int h1 e1
      subst r0 r1
      simp at hx
      obtain ⟨⟨rfl, rfl⟩, _⟩ := hx
      have u0 := World.var?_cell hg hv0 0
      have u1 := World.var?_cell hg hv0 1
      obtain ⟨L⟩ := cs0
      match L, q0, q1 with
      | z0 :: z1 :: zs, q0, q1 =>
        simp at q0 q1
        subst q0 q1
        exact ⟨by simpa using u0, by simpa using u1⟩
    · exact ih hm.tail hin'
end Go.Cv
