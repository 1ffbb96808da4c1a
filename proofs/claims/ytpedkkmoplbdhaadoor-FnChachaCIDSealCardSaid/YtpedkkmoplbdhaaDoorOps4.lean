/- Laws of the walks: copy. -/
import Derived.Test.YtpedkkmoplbdhaaDoorOps3
import Derived.Laws.CopyOwn
import Derived.Deep.MidRow
namespace Go.Cv
open Go.RowKit
set_option linter.unusedVariables false
/-- A run of cells laid into a row of the call's own. -/
theorem Own.setCells {w : World} {B n c b o : Nat} {xs : List Value} (h : Own w B 1 (some ⟨b, o, none⟩) n c xs) (ys : List Value) (k : Nat) (hk : k + ys.length ≤ n) :
    Own (w.setCells b (o + k) ys) B 1 (some ⟨b, o, none⟩) n c (xs.take k ++ (ys ++ xs.drop (k + ys.length))) := by
  obtain ⟨h1, h2, h3, h0 | ⟨b', o', hA, hB, hc, hs, hf⟩⟩ := h
  · have hn : n = 0 := by omega
    subst hn
    have hk0 : k = 0 := by omega
    have hy : ys = [] := List.eq_nil_of_length_eq_zero (by omega)
    subst hk0 hy h0
    have hxs : xs = [] := List.eq_nil_of_length_eq_zero (by simpa using h1)
    subst hxs
    exact Own.empty _ _ _ _
  · injection hA with hA
    injection hA with hb ho
    subst hb ho
    rw [Nat.mul_one] at h1
    have hin : ∀ j, j < ys.length → (w.cell? ⟨b, o + k + j, none⟩).isSome = true := fun j hj => by
      rw [Nat.add_assoc]; exact hs _ (by omega)
    have htk : (xs.take k).length = k := by simp; omega
    refine ⟨by simp; omega, h2, h3, .inr ⟨b, o, rfl, hB, fun j v hj => ?_, fun j hj => ?_, fun j hj => ?_⟩⟩
    · by_cases hj1 : k ≤ j ∧ j < k + ys.length
      · have hh := World.cell?_setCells_in b ys (o + k) w hin (j - k) (by omega)
        rw [show o + k + (j - k) = o + j by omega] at hh
        rw [List.getElem?_append_right (by simp; omega), List.getElem?_append_left (by simp; omega)] at hj
        rw [hh, ← hj, List.getElem?_eq_getElem (by omega)]
        simp [Nat.min_eq_left (show k ≤ xs.length by omega)]
      · rw [World.cell?_setCells_out b ys _ w _ (fun _ _ => by simp only; omega)]
        refine hc j v ?_
        by_cases hj2 : j < k
        · rw [List.getElem?_append_left (by simp; omega), List.getElem?_take_of_lt hj2] at hj
          exact hj
        · rw [List.getElem?_append_right (by rw [htk]; omega), List.getElem?_append_right (by rw [htk]; omega), List.getElem?_drop, htk] at hj
          rw [← hj]
          congr 1
          omega
    · exact World.isSome_setCells b ys _ w _ (hs j hj)
    · rw [World.frozen?_setCells]; exact hf j hj
section
variable {P : Program} {ops : Array Oper} {rest : List Oper} {o : Oper} {a : Act} {Q : Exit → Act → World → Prop} {w : World}
/-- 'copy(d, s)', d a row of the call's own that is filled whole. -/
theorem held_copy_all (hgd : o.guard = none) (d s : Operand) (t u : TypeId) (ho : o.op = .call { callee := .builtin .copy, args := #[d, s], argTypes := #[t, u] })
    (B e : Nat) (ht : P.underlying t = some (.slice e)) (hi : (P.info? e).map (·.size) = some 1) {b o' n c m : Nat} {xs ys : List Value} {A : Option Addr} {m' : Nat}
    (hd : a.eval d = .slice (some ⟨b, o', none⟩) n c) (hs : a.eval s = .slice A m m') (hown : Own w B 1 (some ⟨b, o', none⟩) n c xs) (hm : m = n) (hy : ys.length = n) (hr : Rd w A ys) (h1 : ∀ v ∈ ys, v.oneCell' = true)
    (h : ∀ w', Own w' B 1 (some ⟨b, o', none⟩) n c ys → w.grownBy w' (some b) → wpList P ops Q rest (a.put o.dst (goInt n)) w') :
    Held (wpList P ops Q (o :: rest) a w) := by
  subst hm
  refine held (wpList_plain hgd fun K hK => ?_)
  have hlx := hown.1
  rw [Nat.mul_one] at hlx
  by_cases h0 : m = 0
  · subst h0
    have hy0 : ys = [] := List.eq_nil_of_length_eq_zero hy
    have hx0 : xs = [] := List.eq_nil_of_length_eq_zero hlx
    subst hy0 hx0
    have hrun := run_copy_none (P := P) w t u o.type e (some ⟨b, o', none⟩) A 0 c 0 m' ht hi rfl
    unfold Oper.wp
    simp [execOp, ho, resolve, invoke, builtin, hd, hs, hrun, Result.andThen]
    exact hK _ _ (h w hown (World.grownBy.refl w _))
  · rcases hr with hr | ⟨b2, o2, rfl, hr⟩
    · rw [hr] at hy; simp at hy; omega
    have hcs : ∀ j, j < ys.length → (w.cell? ⟨b, o' + j, none⟩).isSome = true := fun j hj => by
      obtain ⟨v, _, hc, _⟩ := hown.at_ j (by omega)
      rw [hc]; rfl
    have hfs : ∀ j, j < ys.length → w.frozen? ⟨b, o' + j, none⟩ = false := fun j hj => by
      obtain ⟨v, _, _, hf⟩ := hown.at_ j (by omega)
      exact hf
    have hrun := run_copy_cells (P := P) w t u o.type e b o' m c ⟨b2, o2, none⟩ m m' ys ht hi (by simp [hy]) (fun j v hj => by rw [add_lit]; exact hr j v hj) hcs hfs h1
    have hO := hown.setCells ys 0 (by omega)
    have hd0 : xs.drop (0 + ys.length) = [] := List.drop_eq_nil_of_le (by omega)
    rw [hd0] at hO
    simp at hO
    rw [hy] at hrun
    unfold Oper.wp
    simp [execOp, ho, resolve, invoke, builtin, hd, hs, hrun, Result.andThen]
    exact hK _ _ (h _ hO (grownBy_setCells w b o' ys))
end
end Go.Cv
