/- Laws of the walks: copy into a part of a row of the call's own. -/
import Derived.Test.YtpedkkmoplbdhaaDoorOps4
namespace Go.Cv
open Go.RowKit
set_option linter.unusedVariables false
section
variable {P : Program} {ops : Array Oper} {rest : List Oper} {o : Oper} {a : Act} {Q : Exit → Act → World → Prop} {w : World}
/-- 'copy(d, s)', d beginning at place k of a row of the call's own; 'ys' are the cells that go over. -/
theorem held_copy_part (hgd : o.guard = none) (d s : Operand) (t u : TypeId) (ho : o.op = .call { callee := .builtin .copy, args := #[d, s], argTypes := #[t, u] })
    (B e : Nat) (ht : P.underlying t = some (.slice e)) (hi : (P.info? e).map (·.size) = some 1) {b o' k p n c n' c' m m' : Nat} {xs ys : List Value} {A : Option Addr} (hp : p = o' + k)
    (hd : a.eval d = .slice (some ⟨b, p, none⟩) n' c') (hs : a.eval s = .slice A m m') (hown : Own w B 1 (some ⟨b, o', none⟩) n c xs) (hy : ys.length = Nat.min m n') (hk : k + ys.length ≤ n) (h0 : 0 < ys.length) (hr : Rd w A ys) (h1 : ∀ v ∈ ys, v.oneCell' = true)
    (h : ∀ w', Own w' B 1 (some ⟨b, o', none⟩) n c (xs.take k ++ (ys ++ xs.drop (k + ys.length))) → w.grownBy w' (some b) → wpList P ops Q rest (a.put o.dst (goInt ys.length)) w') :
    Held (wpList P ops Q (o :: rest) a w) := by
  subst hp
  refine held (wpList_plain hgd fun K hK => ?_)
  rcases hr with hr | ⟨b2, o2, rfl, hr⟩
  · rw [hr] at h0; simp at h0
  have hcs : ∀ j, j < ys.length → (w.cell? ⟨b, o' + k + j, none⟩).isSome = true := fun j hj => by
    obtain ⟨v, _, hc, _⟩ := hown.at_ (k + j) (by omega)
    rw [Nat.add_assoc, hc]; rfl
  have hfs : ∀ j, j < ys.length → w.frozen? ⟨b, o' + k + j, none⟩ = false := fun j hj => by
    obtain ⟨v, _, _, hf⟩ := hown.at_ (k + j) (by omega)
    rw [Nat.add_assoc]; exact hf
  have hrun := run_copy_cells (P := P) w t u o.type e b (o' + k) n' c' ⟨b2, o2, none⟩ m m' ys ht hi hy (fun j v hj => by rw [add_lit]; exact hr j v hj) hcs hfs h1
  have hO := hown.setCells ys k hk
  unfold Oper.wp
  simp [execOp, ho, resolve, invoke, builtin, hd, hs, hrun, Result.andThen]
  exact hK _ _ (h _ hO (grownBy_setCells w b (o' + k) ys))
end
end Go.Cv
