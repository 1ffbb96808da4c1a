/- Plain: the scripts of the laws. -/
import Derived.Test.YtadblfnggmaadaaDoorFgH
import Derived.Test.YtadblfnggmaadaaDoorFgV
namespace Go.Proofs.YtadblfnggmaadaaDoor
open Go.RowKit Go.Cv
set_option maxRecDepth 100000
set_option linter.unusedVariables false
/-- The step that pushes a piece. -/
def stepP (body : List UInt8) (kd ep : Nat) (pn : List (Nat × Nat)) (i : Nat) : Sf := match pn[i]? with
  | some (a, z) => ⟨true, headOf 22 254 253 ep (i &&& 281474976710655) (12 + (z - a)) [] ++ (hsH kd body.length 0 a (z - a) ++ (body.take z).drop a)⟩
  | none => ⟨false, []⟩
def steps (body : List UInt8) (kd ep : Nat) (pn : List (Nat × Nat)) (j : Nat) : List Sf := (List.range j).map (stepP body kd ep pn)
theorem steps_length (body : List UInt8) (kd ep : Nat) (pn : List (Nat × Nat)) (j : Nat) : (steps body kd ep pn j).length = j := by simp [steps]
theorem steps_snoc (body : List UInt8) (kd ep : Nat) (pn : List (Nat × Nat)) (j : Nat) : steps body kd ep pn (j + 1) = steps body kd ep pn j ++ [stepP body kd ep pn j] := by simp [steps, List.range_succ]
def popS : Sf := ⟨false, []⟩
/-- The buffer's state ahead of step j. -/
def sigW (pn : List (Nat × Nat)) (n j : Nat) : FS := if n < j then .done else if j = 0 then .wait none else .wait (some (pn.take j))
def outW (body : List UInt8) (kd ep n j : Nat) : Out := if j < n then ⟨true, false, [], 0⟩ else if j = n then ⟨false, true, hsW kd body.length ++ body, ep⟩ else ⟨false, false, [], 0⟩
theorem and48_lt (i : Nat) : i &&& 281474976710655 < 281474976710656 := Nat.lt_succ_of_le Nat.and_le_right
theorem stepsW (body : List UInt8) (kd ep n : Nat) (pn : List (Nat × Nat)) (hn : pn.length = n) (hn0 : 0 < n) (hn1 : n ≤ 60) (hp : ∀ p ∈ pn, p.1 ≤ p.2 ∧ p.2 ≤ body.length ∧ (p.1 = p.2 → body.length = 0)) (hc : ∀ k, k < body.length → CovP pn k) :
    sigW pn n 0 = .wait none ∧ ∀ j s, (steps body kd ep pn n ++ [popS, popS])[j]? = some s → FStep body kd ep (sigW pn n j) s (sigW pn n (j + 1)) (outW body kd ep n j) := by
  refine ⟨by simp [sigW], fun j s hs => ?_⟩
  have hl : (steps body kd ep pn n).length = n := steps_length _ _ _ _ _
  rcases Nat.lt_trichotomy j n with h | h | h
  · rw [List.getElem?_append_left (by omega)] at hs
    obtain ⟨⟨a, z⟩, hz⟩ : ∃ p, pn[j]? = some p := ⟨_, List.getElem?_eq_getElem (by omega)⟩
    have hs2 : s = stepP body kd ep pn j := by
      simp [steps, h] at hs
      exact hs.symm
    obtain ⟨h1, h2, h3⟩ := hp (a, z) (List.mem_of_getElem? hz)
    simp only at h1 h2 h3
    have e2 : outW body kd ep n j = ⟨true, false, [], 0⟩ := by simp [outW, h]
    have e3 : sigW pn n (j + 1) = .wait (some (pn.take j ++ [(a, z)])) := by
      have h4 : pn.take (j + 1) = pn.take j ++ [(a, z)] := by rw [List.take_add_one, hz]; rfl
      simp only [sigW]
      rw [if_neg (by omega), if_neg (by omega), h4]
    rw [hs2, e2, e3]
    simp only [stepP, hz]
    rcases Nat.eq_zero_or_pos j with h0 | h0
    · subst h0
      have e1 : sigW pn n 0 = .wait none := by simp [sigW]
      rw [e1]
      exact FStep.piece none _ a z (z - a) _ (by omega) h2 rfl (and48_lt _) (fun ps h => by cases h)
    · have e1 : sigW pn n j = .wait (some (pn.take j)) := by
        simp only [sigW]
        rw [if_neg (by omega), if_neg (by omega)]
      rw [e1]
      exact FStep.piece (some (pn.take j)) _ a z (z - a) _ (by omega) h2 rfl (and48_lt _) (fun ps h => by cases h; simp; omega)
  · subst h
    rw [List.getElem?_append_right (by omega), hl, Nat.sub_self] at hs
    simp [popS] at hs
    subst hs
    have e1 : sigW pn j j = .wait (some pn) := by
      simp only [sigW]
      rw [if_neg (by omega), if_neg (by omega), List.take_of_length_le (by omega)]
    have e2 : outW body kd ep j j = ⟨false, true, hsW kd body.length ++ body, ep⟩ := by simp [outW]
    have e3 : sigW pn j (j + 1) = .done := by simp [sigW]
    rw [e1, e2, e3]
    refine FStep.whole pn [] (by omega) hc ?_
    rcases Nat.eq_zero_or_pos body.length with h0 | h0
    · obtain ⟨⟨a, z⟩, hz⟩ : ∃ p, pn[0]? = some p := ⟨_, List.getElem?_eq_getElem (by omega)⟩
      have hm := List.mem_of_getElem? hz
      have := hp (a, z) hm
      simp only at this
      exact ⟨(a, z), hm, by simp only; omega⟩
    · obtain ⟨p, hp1, hp2, hp3⟩ := hc 0 h0
      exact ⟨p, hp1, by omega⟩
  · have hj : j = n + 1 := by
      have h1 := (List.getElem?_eq_some_iff.1 hs).1
      simp [hl] at h1
      omega
    subst hj
    rw [List.getElem?_append_right (by omega), hl, show n + 1 - n = 1 by omega] at hs
    simp [popS] at hs
    subst hs
    have e1 : sigW pn n (n + 1) = .done := by simp [sigW]
    have e2 : outW body kd ep n (n + 1) = ⟨false, false, [], 0⟩ := by
      simp only [outW]
      rw [if_neg (by omega), if_neg (by omega)]
    have e3 : sigW pn n (n + 1 + 1) = .done := by
      simp only [sigW]
      rw [if_pos (by omega)]
    rw [e1, e2, e3]
    exact FStep.gone []
/-! ### a record that is no handshake message, and a whole one -/
def sigO (L : Nat) (j : Nat) : FS := if j < 3 then .wait none else if j = 3 then .wait (some [(0, L)]) else .done
def outO (body : List UInt8) (kd ep j : Nat) : Out := if j < 2 then ⟨false, false, [], 0⟩ else if j = 2 then ⟨true, false, [], 0⟩ else ⟨false, true, hsW kd body.length ++ body, ep⟩
theorem stepsO (body content : List UInt8) (kd ep ct : Nat) (hct : ct < 256) (h22 : ct ≠ 22) (h25 : ct ≠ 25) (hep : ep < 65536) (hc : content.length ≤ 65000) (s0 s2 : Sf) (h0 : s0 = ⟨true, headOf ct 254 253 ep (1 &&& 281474976710655) content.length [] ++ content⟩)
    (h2 : s2 = ⟨true, headOf 22 254 253 ep (2 &&& 281474976710655) (12 + body.length) [] ++ (hsW kd body.length ++ body)⟩) :
    sigO body.length 0 = .wait none ∧ ∀ j s, [s0, popS, s2, popS][j]? = some s → FStep body kd ep (sigO body.length j) s (sigO body.length (j + 1)) (outO body kd ep j) := by
  refine ⟨rfl, fun j s hs => ?_⟩
  match j with
  | 0 =>
    simp at hs; subst hs h0
    exact FStep.other none ct ep (1 &&& 281474976710655) content.length content hct h22 h25 hep (and48_lt _) hc (fun ps h => by cases h)
  | 1 =>
    simp [popS] at hs; subst hs
    exact FStep.none []
  | 2 =>
    simp at hs; subst hs h2
    have h := FStep.piece (body := body) (kd := kd) (ep := ep) none (2 &&& 281474976710655) 0 body.length body.length body (by omega) (Nat.le_refl _) (by simp) (and48_lt _) (fun ps h => by cases h)
    exact h
  | 3 =>
    simp [popS] at hs; subst hs
    exact FStep.whole [(0, body.length)] [] (by simp) (fun k hk => ⟨(0, body.length), by simp, by simp, hk⟩) ⟨(0, body.length), by simp, rfl⟩
  | j + 4 => simp at hs
end Go.Proofs.YtadblfnggmaadaaDoor
