/- Laws of the walks: copy into a part of a row of the call's own, of no byte too. -/
import Derived.Test.YtpedkkmoplbdhaaDoorOps5
namespace Go.Cv
open Go.RowKit
set_option linter.unusedVariables false
section
variable {P : Program} {ops : Array Oper} {rest : List Oper} {o : Oper} {a : Act} {Q : Exit → Act → World → Prop} {w : World}
theorem held_copy_any (hgd : o.guard = none) (d s : Operand) (t u : TypeId) (ho : o.op = .call { callee := .builtin .copy, args := #[d, s], argTypes := #[t, u] })
    (B e : Nat) (ht : P.underlying t = some (.slice e)) (hi : (P.info? e).map (·.size) = some 1) {b o' k p n c n' c' m m' : Nat} {xs ys : List Value} {A : Option Addr} (hp : p = o' + k)
    (hd : a.eval d = .slice (some ⟨b, p, none⟩) n' c') (hs : a.eval s = .slice A m m') (hown : Own w B 1 (some ⟨b, o', none⟩) n c xs) (hy : ys.length = Nat.min m n') (hk : k + ys.length ≤ n) (hr : Rd w A ys) (h1 : ∀ v ∈ ys, v.oneCell' = true)
    (h : ∀ w', Own w' B 1 (some ⟨b, o', none⟩) n c (xs.take k ++ (ys ++ xs.drop (k + ys.length))) → w.grownBy w' (some b) → wpList P ops Q rest (a.put o.dst (goInt ys.length)) w') :
    Held (wpList P ops Q (o :: rest) a w) := by
  by_cases h0 : 0 < ys.length
  · exact held_copy_part hgd d s t u ho B e ht hi hp hd hs hown hy hk h0 hr h1 h
  have e0 : ys = [] := List.eq_nil_of_length_eq_zero (by omega)
  subst e0
  refine held (wpList_plain hgd fun K hK => ?_)
  have hrun := run_copy_none (P := P) w t u o.type e (some ⟨b, p, none⟩) A n' c' m m' ht hi hy.symm
  unfold Oper.wp
  simp [execOp, ho, resolve, invoke, builtin, hd, hs, hrun, Result.andThen]
  refine hK _ _ (h w ?_ (World.grownBy.refl w _))
  simpa using hown
end
end Go.Cv
