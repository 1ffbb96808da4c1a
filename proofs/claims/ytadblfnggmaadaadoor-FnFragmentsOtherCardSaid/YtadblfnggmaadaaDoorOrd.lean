/- A region that draws its order: a condition on the world that hangs on what has come up already: no program text. -/
import Derived.OrdersHeld
import Derived.RegionTactic
namespace Go.Cv
open Go
set_option linter.unusedVariables false
section
variable {P : Program} {ops : Array Oper} {Q : Exit → Act → World → Prop} {md : Region.Mode} {S : Array Bool → World → Prop}
/-- What has come up is closed: whatever it waits for has come up too. -/
def UpShut (md : Region.Mode) (ops : Array Oper) (L : Array Bool) : Prop :=
  ∀ (j : Nat) (o : Oper), ops[j]? = some o → L.getD j false = true → ∀ e ∈ o.after, Region.binds md e = true → L.getD e.on false = true
theorem UpShut.start (n : Nat) : UpShut md ops (Array.replicate n false) := fun j o _ h => by
  rw [Array.getD_eq_getD_getElem?, Array.getElem?_replicate] at h
  split at h <;> simp at h
theorem UpShut.step {L : Array Bool} {i : Nat} (h : UpShut md ops L) (hi : i ∈ Region.ready md ops L) : UpShut md ops (L.setIfInBounds i true) := fun j o hj hL e he hb => by
  by_cases hij : i = j
  · subst hij
    obtain ⟨_, o', ho', hall⟩ := mem_ready.1 hi
    rw [hj] at ho'; cases ho'
    exact getD_set_true (hall e he hb)
  · rw [getD_set_ne false hij] at hL
    exact getD_set_true (h j o hj hL e he hb)
/-- Whatever order is picked from here on, and S, of what has come up, is shown behind every operation. -/
def wpAnyL (P : Program) (md : Region.Mode) (ops : Array Oper) (Q : Exit → Act → World → Prop) (S : Array Bool → World → Prop) : Nat → Array Bool → Act → World → Prop
  | 0, L, a, w => Region.ready md ops L = [] ∧ Q .normal a w
  | n + 1, L, a, w => (Region.ready md ops L = [] → Q .normal a w) ∧
    ∀ i ∈ Region.ready md ops L, wpOp P ops Q i (fun a' w' => S (L.setIfInBounds i true) w' ∧ wpAnyL P md ops Q S n (L.setIfInBounds i true) a' w') a w
theorem wpAnyL.any : ∀ (n : Nat) (L : Array Bool) (a : Act) (w : World), wpAnyL P md ops Q S n L a w → wpAny P md ops Q n L a w
  | 0, _, _, _, h => h
  | n + 1, _, _, _, h => ⟨h.1, fun i hi => wpOp_mono (fun a' w' h' => wpAnyL.any n _ a' w' h'.2) (h.2 i hi)⟩
/-- Number j waits for number i. -/
def waits (md : Region.Mode) (ops : Array Oper) (j i : Nat) : Bool := match ops[j]? with | some o => o.after.any (fun e => Region.binds md e && e.on == i) | none => false
theorem UpShut.not {L : Array Bool} {i j : Nat} (h : UpShut md ops L) (hw : waits md ops j i = true) (hi : L.getD i false = false) : L.getD j false = false := by
  cases hj : L.getD j false with
  | false => rfl
  | true =>
    unfold waits at hw
    split at hw
    · rename_i o ho
      obtain ⟨e, he, hb⟩ := Array.any_eq_true'.1 hw
      simp only [Bool.and_eq_true, beq_iff_eq] at hb
      have h2 := h j o ho hj e he hb.1
      rw [hb.2, hi] at h2
      cases h2
    · cases hw
/-- The worlds in which number i, not yet up, may be met. -/
def Meets (md : Region.Mode) (ops : Array Oper) (S : Array Bool → World → Prop) (i : Nat) (w : World) : Prop := ∃ L, UpShut md ops L ∧ L.getD i false = false ∧ S L w
theorem not_up {L : Array Bool} {i : Nat} (h : L.getD i true = false) : L.getD i false = false := by
  rw [Array.getD_eq_getD_getElem?] at h ⊢
  cases hL : L[i]? with
  | none => rw [hL] at h; simp at h
  | some b => rw [hL] at h; simpa using h
theorem wpAnyL.first {i : Nat} {oi : Oper} {v : Value} (hi : ops[i]? = some oi) (hsel : ∀ (j : Nat) (o : Oper) cs b, ops[j]? = some o → o.op ≠ .select cs b)
    (hQ : ∀ c a w, Q (.panic c) (a.put oi.dst v) w → Q (.panic c) a w) (hSi : ∀ L w, S (L.setIfInBounds i true) w → S L w) :
    ∀ (n : Nat) (L : Array Bool) (a : Act) (w : World),
      (∀ j oj, ops[j]? = some oj → j ≠ i → L.getD j true = false → (∀ e ∈ oj.after, Region.binds md e = true → e.on ≠ i) → oi.apart ops oj = true) →
      i ∈ Region.ready md ops L → UpShut md ops L → YieldsIf P ops (Meets md ops S i) oi v a → S (L.setIfInBounds i true) w →
      wpAnyL P md ops Q S n (L.setIfInBounds i true) (a.put oi.dst v) w → wpAnyL P md ops Q S (n + 1) L a w := by
  intro n
  induction n with
  | zero =>
    intro L a w _ hr hc hy hS H
    have hm : Meets md ops S i w := ⟨L, hc, not_up (mem_ready.1 hr).1, hSi L w hS⟩
    refine ⟨fun h => (by rw [h] at hr; cases hr), fun j hj => ?_⟩
    by_cases hji : j = i
    · subst hji; exact hy.wpOp hi hm ⟨hS, H⟩
    · have h := ready_mono hj hji
      rw [H.1] at h
      cases h
  | succ n ih =>
    intro L a w hfree hr hc hy hS H
    have hm : Meets md ops S i w := ⟨L, hc, not_up (mem_ready.1 hr).1, hSi L w hS⟩
    refine ⟨fun h => (by rw [h] at hr; cases hr), fun j hj => ?_⟩
    by_cases hji : j = i
    · subst hji; exact hy.wpOp hi hm ⟨hS, H⟩
    · have h1 := H.2 j (ready_mono hj hji)
      obtain ⟨hjun, oj, hoj, hall⟩ := mem_ready.1 hj
      have hnot : ∀ e ∈ oj.after, Region.binds md e = true → e.on ≠ i := fun e he hb heq => by
        have h2 := hall e he hb
        rw [heq, not_up (mem_ready.1 hr).1] at h2
        cases h2
      have h2 := wpOp_putIf hoj (hfree j oj hoj hji hjun hnot) (fun cs b => hsel i oi cs b hi) (fun cs b => hsel j oj cs b hoj) hQ hy h1
      have hfree' : ∀ k ok, ops[k]? = some ok → k ≠ i → (L.setIfInBounds j true).getD k true = false →
          (∀ e ∈ ok.after, Region.binds md e = true → e.on ≠ i) → oi.apart ops ok = true := fun k ok hk hki hun hno => by
        refine hfree k ok hk hki ?_ hno
        by_cases hjk : j = k
        · subst hjk; exact hjun
        · rw [getD_set_ne true hjk] at hun; exact hun
      refine wpOp_mono (fun a' w' h3 => ?_) h2
      obtain ⟨hy', hS', H'⟩ := h3
      rw [Array.setIfInBounds_comm _ _ (Ne.symm hji)] at hS' H'
      exact ⟨hSi _ _ hS', ih (L.setIfInBounds j true) a' w' hfree' (ready_mono hr (Ne.symm hji)) (hc.step hj) hy' hS' H'⟩
/-- Take number i first. -/
theorem wpAnyL.take {i : Nat} {oi : Oper} {v : Value} {n : Nat} {L : Array Bool} {a : Act} {w : World} (hi : ops[i]? = some oi)
    (hs : Region.noSelect ops = true) (hf : Region.free md ops L i = true) (hr : (Region.ready md ops L).contains i = true)
    (hQ : ∀ c a w, Q (.panic c) (a.put oi.dst v) w → Q (.panic c) a w) (hSi : ∀ L w, S (L.setIfInBounds i true) w → S L w) (hc : UpShut md ops L) (hy : YieldsIf P ops (Meets md ops S i) oi v a) (hS : S (L.setIfInBounds i true) w)
    (h : UpShut md ops (L.setIfInBounds i true) → wpAnyL P md ops Q S n (L.setIfInBounds i true) (a.put oi.dst v) w) : wpAnyL P md ops Q S (n + 1) L a w :=
  wpAnyL.first hi (Region.noSelect_spec hs) hQ hSi n L a w (Region.free_spec hi hf) (by simpa using hr) hc hy hS (h (hc.step (by simpa using hr)))
/-- Whichever comes up. -/
theorem wpAnyL.all {rs : List Nat} {n : Nat} {L : Array Bool} {a : Act} {w : World} (hr : Region.ready md ops L = rs) (hne : rs ≠ []) (hc : UpShut md ops L)
    (h : ∀ i ∈ rs, UpShut md ops (L.setIfInBounds i true) → wpOp P ops Q i (fun a' w' => S (L.setIfInBounds i true) w' ∧ wpAnyL P md ops Q S n (L.setIfInBounds i true) a' w') a w) : wpAnyL P md ops Q S (n + 1) L a w :=
  ⟨fun h0 => absurd (hr ▸ h0) hne, fun i hi => h i (hr ▸ hi) (hc.step hi)⟩
theorem wpAnyL.done {L : Array Bool} {a : Act} {w : World} (hr : Region.ready md ops L = []) (h : Q .normal a w) : ∀ n, wpAnyL P md ops Q S n L a w
  | 0 => ⟨hr, h⟩
  | _ + 1 => ⟨fun _ => h, by rw [hr]; simp⟩
theorem wpAnyL.region {id : Nat} {a : Act} {w : World} (hm : P.follows .mixedOrders = true)
    (h : UpShut .any ops (Array.replicate ops.size false) → wpAnyL P .any ops Q S ops.size (Array.replicate ops.size false) a w.drew) : (Code.region id ops true).wp P Q a w :=
  wp_region_any hm (wpAnyL.any _ _ _ _ (h (UpShut.start _)))
/-- An operation that is carried out. -/
theorem wpOp_do {i : Nat} {o : Oper} {K : Act → World → Prop} {a : Act} {w : World} (hi : ops[i]? = some o) (h : if Region.wanted o (yielded ops a.tmps) = true then Oper.wp P o a w K Q else K (a.put o.dst undef) w) : wpOp P ops Q i K a w :=
  wpOp_step hi fun K' hK => by
    split at h
    · rename_i hw; rw [if_pos hw]; exact Oper.wp_mono (fun a w h => hK a w h) h
    · rename_i hw; rw [if_neg hw]; exact hK _ _ h
end
end Go.Cv
