/- Plain: what is kept of a message's pieces. -/
import Derived.Test.YtadblfnggmaadaaDoorRgG
namespace Go.Proofs.YtadblfnggmaadaaDoor
open Go.RowKit Go.Cv
set_option maxRecDepth 100000
set_option linter.unusedVariables false
/-- A place lies in one of the pieces. -/
def CovBy (R : List Rg) (k : Nat) : Prop := ∃ r ∈ R, r.off ≤ k ∧ k < r.fin
/-- Pieces in their order: beginnings and ends ascend. -/
def Asc (R : List Rg) : Prop := ∀ (i j : Nat) (r s : Rg), i < j → R[i]? = some r → R[j]? = some s → r.off < s.off ∧ r.fin < s.fin
theorem Asc.sorted {R : List Rg} (h : Asc R) : Sorted R := fun i j r s hij hr hs => by
  rcases Nat.lt_or_ge i j with h1 | h1
  · exact Nat.le_of_lt (h i j r s h1 hr hs).1
  · have : i = j := by omega
    subst this
    rw [hr] at hs; cases hs
    exact Nat.le_refl _
theorem Asc.nil : Asc [] := fun i j r s _ h => by simp at h
theorem Asc.drop {R : List Rg} (h : Asc R) (k : Nat) : Asc (R.drop k) := fun i j r s hij hr hs => by
  rw [List.getElem?_drop] at hr hs
  exact h (k + i) (k + j) r s (by omega) hr hs
theorem mem_at {R : List Rg} {r : Rg} (h : r ∈ R) : ∃ i : Nat, R[i]? = some r := List.mem_iff_getElem?.1 h
theorem adv_spec (L : Nat) : ∀ (T : List Rg) (c0 : Nat), Asc T → (∀ r ∈ T, r.fin ≤ L) → c0 ≤ L →
    c0 ≤ advL T c0 ∧ advL T c0 ≤ L ∧ (∀ k, c0 ≤ k → k < advL T c0 → CovBy T k) ∧ (∀ r ∈ T, ¬ (r.off ≤ advL T c0 ∧ advL T c0 < r.fin))
  | [], c0, _, _, h0 => ⟨Nat.le_refl _, h0, fun k h1 h2 => by rw [advL] at h2; omega, fun r h => by simp at h⟩
  | r :: rs, c0, hA, hL, h0 => by
    have hA' : Asc rs := by simpa using hA.drop 1
    by_cases h : r.off ≤ c0
    · have hr := hL r (by simp)
      obtain ⟨i1, i2, i3, i4⟩ := adv_spec L rs (max c0 r.fin) hA' (fun q hq => hL q (by simp [hq])) (by omega)
      rw [advL, if_pos h]
      refine ⟨by omega, i2, fun k h1 h2 => ?_, fun q hq => ?_⟩
      · rcases Nat.lt_or_ge k (max c0 r.fin) with h3 | h3
        · exact ⟨r, by simp, by omega, by omega⟩
        · obtain ⟨q, hq, h4⟩ := i3 k h3 h2
          exact ⟨q, by simp [hq], h4⟩
      · rcases List.mem_cons.1 hq with rfl | hq
        · omega
        · exact i4 q hq
    · rw [advL, if_neg h]
      refine ⟨Nat.le_refl _, h0, fun k h1 h2 => by omega, fun q hq => ?_⟩
      rcases List.mem_cons.1 hq with rfl | hq
      · omega
      · obtain ⟨j, hj⟩ := mem_at hq
        have := (hA 0 (j + 1) r q (by omega) rfl (by simpa using hj)).1
        omega
/-- How much of the beginning is there. -/
def IsPre (P : Nat → Prop) (L c : Nat) : Prop := c ≤ L ∧ (∀ k, k < c → P k) ∧ (c < L → ¬ P c)
/-- What the pieces keep to. -/
structure Kept (body : List UInt8) (R : List Rg) (cov : Nat) : Prop where
  asc : Asc R
  fin : ∀ r ∈ R, r.fin ≤ body.length
  txt : ∀ r ∈ R, r.l = (body.take r.fin).drop r.off
  pre : IsPre (CovBy R) body.length cov
theorem Kept.start (body : List UInt8) : Kept body [] 0 := ⟨Asc.nil, fun r h => by simp at h, fun r h => by simp at h, ⟨Nat.zero_le _, fun k h => by omega, fun _ ⟨r, h, _⟩ => by simp at h⟩⟩
theorem eaten_mem {R : List Rg} {i : Nat} {f r : Rg} (h : r ∈ eaten R i f) : r ∈ R.drop i ∧ r.fin ≤ f.fin := by
  have h1 : r ∈ R.drop i := (List.takeWhile_sublist _).mem h
  have h2 : ∀ (l : List Rg), r ∈ l.takeWhile (fun q => decide (q.fin ≤ f.fin)) → r.fin ≤ f.fin := by
    intro l
    induction l with
    | nil => intro h; simp at h
    | cons a l ih =>
      rw [List.takeWhile_cons]
      split
      · rename_i ha
        intro hm
        rcases List.mem_cons.1 hm with rfl | hm
        · exact of_decide_eq_true ha
        · exact ih hm
      · intro hm; simp at hm
  exact ⟨h1, h2 _ h⟩
theorem tw_split {α : Type} (p : α → Bool) (l : List α) : l = l.takeWhile p ++ l.drop (l.takeWhile p).length := by
  induction l with
  | nil => rfl
  | cons a l ih =>
    rw [List.takeWhile_cons]
    split
    · rw [List.length_cons, List.drop_succ_cons, List.cons_append, ← ih]
    · rfl
theorem tw_head {α : Type} (p : α → Bool) (l : List α) (a : α) (h : (l.drop (l.takeWhile p).length)[0]? = some a) : p a = false := by
  induction l with
  | nil => simp at h
  | cons b l ih =>
    rw [List.takeWhile_cons] at h
    split at h
    · rw [List.length_cons, List.drop_succ_cons] at h
      exact ih h
    · rename_i hb
      simp at h
      subst h
      simpa using hb
theorem drop_split (R : List Rg) (i : Nat) (f : Rg) : R.drop i = eaten R i f ++ R.drop (i + (eaten R i f).length) := by
  have h := tw_split (fun r : Rg => decide (r.fin ≤ f.fin)) (R.drop i)
  rw [List.drop_drop] at h
  exact h
/-- The pieces behind those that are eaten end behind f, and begin behind it too, unless f is there already. -/
theorem rest_behind {R : List Rg} {f s : Rg} {i j : Nat} (hA : Asc R) (hp : Place R f i) (hc : covC R i f = false) (hj : i + (eaten R i f).length ≤ j) (hs : R[j]? = some s) : f.off < s.off ∧ f.fin < s.fin := by
  obtain ⟨e, he⟩ : ∃ e, i + (eaten R i f).length = e := ⟨_, rfl⟩
  rw [he] at hj
  have hjl := (List.getElem?_eq_some_iff.1 hs).1
  obtain ⟨q, hq⟩ : ∃ q, R[e]? = some q := ⟨_, List.getElem?_eq_getElem (by omega)⟩
  have hqf : f.fin < q.fin := by
    have h := tw_head (fun r : Rg => decide (r.fin ≤ f.fin)) (R.drop i) q (by
      rw [List.drop_drop, List.getElem?_drop, Nat.add_zero]
      show R[i + (eaten R i f).length]? = some q
      rw [he]; exact hq)
    simp at h
    exact h
  have hqo : f.off ≤ q.off := by
    have h := (hp.2 e q hq)
    have h2 : ¬ e < i := by omega
    omega
  have hqs : f.off < q.off := by
    rcases Nat.lt_or_ge f.off q.off with h | h
    · exact h
    · exfalso
      have h0 : q.off = f.off := by omega
      rcases Nat.lt_or_ge i e with h1 | h1
      · obtain ⟨p, hpp⟩ : ∃ p, R[i]? = some p := ⟨_, List.getElem?_eq_getElem (by omega)⟩
        have h2 := (hA i e p q h1 hpp hq).1
        have h3 := hp.2 i p hpp
        omega
      · have h1 : e = i := by omega
        rw [h1] at hq
        simp [covC, hq, h0] at hc
        omega
  rcases Nat.lt_or_ge e j with h | h
  · have h2 := hA e j q s h hq hs
    omega
  · have : e = j := by omega
    subst this
    rw [hq] at hs; cases hs
    exact ⟨hqs, hqf⟩
theorem ahead {R : List Rg} {f r : Rg} {i j : Nat} (hA : Asc R) (hp : Place R f i) (hc : covA R i f = false) (hj : j < i) (hr : R[j]? = some r) : r.off < f.off ∧ r.fin < f.fin := by
  refine ⟨(hp.2 j r hr).1 hj, ?_⟩
  obtain ⟨k, rfl⟩ : ∃ k, i = k + 1 := ⟨i - 1, by omega⟩
  obtain ⟨q, hq⟩ : ∃ q, R[k]? = some q := ⟨_, List.getElem?_eq_getElem (by have := hp.1; omega)⟩
  have h1 : q.fin < f.fin := by simp [covA, hq] at hc; omega
  rcases Nat.lt_or_ge j k with h | h
  · have := (hA j k r q h hr hq).2
    omega
  · have : j = k := by omega
    subst this
    rw [hq] at hr; cases hr
    exact h1
theorem addR_get {R : List Rg} {f : Rg} {i j : Nat} (hi : i ≤ R.length) : (addR R f i)[j]? = if j < i then R[j]? else if j = i then some f else R[i + (eaten R i f).length + (j - i - 1)]? := by
  unfold addR
  have hl : (R.take i).length = i := by rw [List.length_take]; omega
  by_cases h1 : j < i
  · rw [if_pos h1, List.getElem?_append_left (by omega), List.getElem?_take_of_lt h1]
  · rw [if_neg h1, List.getElem?_append_right (by omega), hl]
    by_cases h2 : j = i
    · subst h2; simp
    · rw [if_neg h2, List.getElem?_append_right (by simp; omega), List.getElem?_drop]
      congr 1
theorem addR_asc {R : List Rg} {f : Rg} {i : Nat} (hA : Asc R) (hp : Place R f i) (ha : covA R i f = false) (hc : covC R i f = false) : Asc (addR R f i) := by
  intro x y r s hxy hr hs
  rw [addR_get hp.1] at hr hs
  by_cases h1 : x < i
  · rw [if_pos h1] at hr
    by_cases h2 : y < i
    · rw [if_pos h2] at hs
      exact hA x y r s hxy hr hs
    · rw [if_neg h2] at hs
      have h3 := ahead hA hp ha h1 hr
      by_cases h4 : y = i
      · rw [if_pos h4] at hs; cases hs
        exact h3
      · rw [if_neg h4] at hs
        have h5 := rest_behind hA hp hc (by omega) hs
        omega
  · rw [if_neg h1] at hr
    rw [if_neg (by omega), if_neg (by omega)] at hs
    have h5 := rest_behind hA hp hc (by omega) hs
    by_cases h4 : x = i
    · rw [if_pos h4] at hr; cases hr
      exact h5
    · rw [if_neg h4] at hr
      exact hA _ _ r s (by omega) hr hs
theorem addR_cov {R : List Rg} {f : Rg} {i : Nat} (hp : Place R f i) (k : Nat) : CovBy (addR R f i) k ↔ (CovBy R k ∨ (f.off ≤ k ∧ k < f.fin)) := by
  have hR : R = R.take i ++ (eaten R i f ++ R.drop (i + (eaten R i f).length)) := by rw [← drop_split, List.take_append_drop]
  constructor
  · rintro ⟨r, hr, h⟩
    unfold addR at hr
    rcases List.mem_append.1 hr with hr | hr
    · exact .inl ⟨r, List.mem_of_mem_take hr, h⟩
    · rcases List.mem_append.1 hr with hr | hr
      · simp at hr; subst hr; exact .inr h
      · exact .inl ⟨r, List.mem_of_mem_drop hr, h⟩
  · rintro (⟨r, hr, h⟩ | h)
    · rw [hR] at hr
      rcases List.mem_append.1 hr with hr | hr
      · exact ⟨r, by unfold addR; exact List.mem_append.2 (.inl hr), h⟩
      · rcases List.mem_append.1 hr with hr | hr
        · obtain ⟨h1, h2⟩ := eaten_mem hr
          obtain ⟨t, ht⟩ := mem_at h1
          rw [List.getElem?_drop] at ht
          have h3 := (hp.2 _ r ht)
          exact ⟨f, by unfold addR; simp, by omega, by omega⟩
        · exact ⟨r, by unfold addR; exact List.mem_append.2 (.inr (List.mem_append.2 (.inr hr))), h⟩
    · exact ⟨f, by unfold addR; simp, h⟩
theorem cov_there {R : List Rg} {f : Rg} {i : Nat} (hp : Place R f i) (h : (covA R i f || covC R i f) = true) (k : Nat) (h1 : f.off ≤ k) (h2 : k < f.fin) : CovBy R k := by
  rw [Bool.or_eq_true] at h
  rcases h with h | h
  · cases i with
    | zero => simp [covA] at h
    | succ i =>
      unfold covA at h
      simp only at h
      split at h
      · rename_i r hr
        have h3 := of_decide_eq_true h
        have h4 := (hp.2 i r hr).1 (by omega)
        exact ⟨r, List.mem_of_getElem? hr, by omega, by omega⟩
      · cases h
  · unfold covC at h
    split at h
    · rename_i r hr
      simp at h
      exact ⟨r, List.mem_of_getElem? hr, by omega, by omega⟩
    · cases h
theorem addR_pre {R : List Rg} {f : Rg} {i cov L : Nat} (hA : Asc R) (hL : ∀ r ∈ R, r.fin ≤ L) (hf : f.fin ≤ L) (hp : Place R f i) (ha : covA R i f = false) (hc : covC R i f = false) (hpre : IsPre (CovBy R) L cov) :
    IsPre (CovBy (addR R f i)) L (advL ((addR R f i).drop i) cov) := by
  have hAsc := addR_asc hA hp ha hc
  have hfin : ∀ r ∈ addR R f i, r.fin ≤ L := by
    intro r hr
    unfold addR at hr
    rcases List.mem_append.1 hr with hr | hr
    · exact hL r (List.mem_of_mem_take hr)
    · rcases List.mem_append.1 hr with hr | hr
      · simp at hr; subst hr; exact hf
      · exact hL r (List.mem_of_mem_drop hr)
  obtain ⟨h1, h2, h3, h4⟩ := adv_spec L ((addR R f i).drop i) cov (hAsc.drop i) (fun r hr => hfin r (List.mem_of_mem_drop hr)) hpre.1
  refine ⟨h2, fun k hk => ?_, fun hlt => ?_⟩
  · rcases Nat.lt_or_ge k cov with h | h
    · exact (addR_cov hp k).2 (.inl (hpre.2.1 k h))
    · obtain ⟨r, hr, h5⟩ := h3 k h hk
      exact ⟨r, List.mem_of_mem_drop hr, h5⟩
  · rintro ⟨r, hr, h5, h6⟩
    obtain ⟨j, hj⟩ := mem_at hr
    by_cases hji : j < i
    · rw [addR_get hp.1, if_pos hji] at hj
      have hcov : cov < L := by omega
      have h7 := hpre.2.2 hcov
      have h8 : ¬ (r.off ≤ cov ∧ cov < r.fin) := fun h => h7 ⟨r, List.mem_of_getElem? hj, h⟩
      have h9 : cov < r.off := by omega
      have h10 := ahead hA hp ha hji hj
      -- f begins behind cov: the beginning does not grow
      have h11 : advL ((addR R f i).drop i) cov = cov := by
        have hfi : (addR R f i)[i]? = some f := by rw [addR_get hp.1, if_neg (by omega), if_pos rfl]
        exact advL_stop hfi (by omega)
      omega
    · refine h4 r ?_ ⟨h5, h6⟩
      have : (addR R f i).drop i = (addR R f i).drop i := rfl
      exact List.mem_of_getElem? (i := j - i) (by rw [List.getElem?_drop, show i + (j - i) = j by omega]; exact hj)
theorem addR_kept {body : List UInt8} {R : List Rg} {f : Rg} {i cov : Nat} (hK : Kept body R cov) (hp : Place R f i) (hf : f.fin ≤ body.length) (hft : f.l = (body.take f.fin).drop f.off) (ha : covA R i f = false) (hc : covC R i f = false) :
    Kept body (addR R f i) (advL ((addR R f i).drop i) cov) := by
  have hmem : ∀ r ∈ addR R f i, r = f ∨ r ∈ R := by
    intro r hr
    unfold addR at hr
    rcases List.mem_append.1 hr with hr | hr
    · exact .inr (List.mem_of_mem_take hr)
    · rcases List.mem_append.1 hr with hr | hr
      · simp at hr; exact .inl hr
      · exact .inr (List.mem_of_mem_drop hr)
  refine ⟨addR_asc hK.asc hp ha hc, fun r hr => ?_, fun r hr => ?_, addR_pre hK.asc hK.fin hf hp ha hc hK.pre⟩
  · rcases hmem r hr with rfl | h
    · exact hf
    · exact hK.fin r h
  · rcases hmem r hr with rfl | h
    · exact hft
    · exact hK.txt r h
theorem bytes_append (A B : List Rg) : bytesOf (A ++ B) = bytesOf A + bytesOf B := by simp [bytesOf]
theorem addR_count {R : List Rg} {f : Rg} {i : Nat} (hp : Place R f i) : ((addR R f i).length : Int) = (R.length : Int) + (1 - ((eaten R i f).length : Int)) ∧ (bytesOf (addR R f i) : Int) = (bytesOf R : Int) + ((f.l.length : Int) - (bytesOf (eaten R i f) : Int)) := by
  have hR : R = R.take i ++ (eaten R i f ++ R.drop (i + (eaten R i f).length)) := by rw [← drop_split, List.take_append_drop]
  have h1 : R.length = (R.take i).length + ((eaten R i f).length + (R.drop (i + (eaten R i f).length)).length) := by
    conv => lhs; rw [hR]
    rw [List.length_append, List.length_append]
  have h2 : bytesOf R = bytesOf (R.take i) + (bytesOf (eaten R i f) + bytesOf (R.drop (i + (eaten R i f).length))) := by
    conv => lhs; rw [hR]
    rw [bytes_append, bytes_append]
  have h3 : (addR R f i).length = (R.take i).length + (1 + (R.drop (i + (eaten R i f).length)).length) := by
    unfold addR; rw [List.length_append, List.length_append]; rfl
  have h4 : bytesOf (addR R f i) = bytesOf (R.take i) + (f.l.length + bytesOf (R.drop (i + (eaten R i f).length))) := by
    unfold addR; rw [bytes_append, bytes_append]; simp [bytesOf]
  omega
end Go.Proofs.YtadblfnggmaadaaDoor
