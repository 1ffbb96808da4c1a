/- Plain: the pieces of a whole message, one behind the other, are the message. -/
import Derived.Test.YtadblfnggmaadaaDoorFgE
namespace Go.Proofs.YtadblfnggmaadaaDoor
open Go.RowKit Go.Cv
set_option maxRecDepth 100000
set_option linter.unusedVariables false
/-- How far the first j pieces reach. -/
def curs (R : List Rg) : Nat → Nat
  | 0 => 0
  | j + 1 => match R[j]? with
    | some r => r.fin
    | none => 0
theorem curs_next {R : List Rg} {j : Nat} {r : Rg} (h : R[j]? = some r) : curs R (j + 1) = r.fin := by simp only [curs, h]
theorem whole_cov {body : List UInt8} {R : List Rg} {cov : Nat} (h : Kept body R cov) (hc : ∀ k, k < body.length → CovBy R k) : cov = body.length := by
  obtain ⟨h1, h2, h3⟩ := h.pre
  rcases Nat.lt_or_ge cov body.length with h4 | h4
  · exact absurd (hc cov h4) (h3 h4)
  · omega
theorem asc_le {R : List Rg} (h : Asc R) {i j : Nat} {r s : Rg} (hij : i ≤ j) (hr : R[i]? = some r) (hs : R[j]? = some s) : r.off ≤ s.off ∧ r.fin ≤ s.fin := by
  rcases Nat.lt_or_ge i j with h1 | h1
  · have := h i j r s h1 hr hs
    omega
  · have : i = j := by omega
    subst this
    rw [hr] at hs; cases hs
    exact ⟨Nat.le_refl _, Nat.le_refl _⟩
/-- The next piece begins where the former ones end, or ahead of it, and ends behind it. -/
theorem curs_step {body : List UInt8} {R : List Rg} {cov : Nat} (h : Kept body R cov) (hc : ∀ k, k < body.length → CovBy R k) {j : Nat} {r : Rg} (hj : R[j]? = some r) : r.off ≤ curs R j ∧ curs R j ≤ r.fin ∧ (0 < r.l.length → curs R j < r.fin) := by
  have hmem := List.mem_of_getElem? hj
  have hfin := h.fin r hmem
  have hrf : r.off ≤ r.fin := by unfold Rg.fin; omega
  cases j with
  | zero =>
    simp only [curs]
    refine ⟨?_, Nat.zero_le _, fun hl => by unfold Rg.fin; omega⟩
    rcases Nat.eq_zero_or_pos body.length with h0 | h0
    · omega
    · obtain ⟨q, hq, h1, h2⟩ := hc 0 h0
      obtain ⟨i, hi⟩ := mem_at hq
      have := (asc_le h.asc (Nat.zero_le i) hj hi).1
      omega
  | succ j =>
    have hl := (List.getElem?_eq_some_iff.1 hj).1
    obtain ⟨p, hp⟩ : ∃ p, R[j]? = some p := ⟨_, List.getElem?_eq_getElem (by omega)⟩
    rw [curs_next hp]
    have h1 := h.asc j (j + 1) p r (by omega) hp hj
    refine ⟨?_, by omega, fun _ => by omega⟩
    rcases Nat.lt_or_ge p.fin r.off with h2 | h2
    · exfalso
      obtain ⟨q, hq, h3, h4⟩ := hc p.fin (by omega)
      obtain ⟨i, hi⟩ := mem_at hq
      rcases Nat.lt_or_ge i (j + 1) with h5 | h5
      · have := (asc_le h.asc (show i ≤ j by omega) hi hp).2
        omega
      · have := (asc_le h.asc h5 hj hi).1
        omega
    · exact h2
theorem curs_end {body : List UInt8} {R : List Rg} {cov : Nat} (h : Kept body R cov) (hc : ∀ k, k < body.length → CovBy R k) : curs R R.length = body.length := by
  cases hR : R.length with
  | zero =>
    have : R = [] := List.eq_nil_of_length_eq_zero hR
    subst this
    simp only [curs]
    rcases Nat.eq_zero_or_pos body.length with h0 | h0
    · omega
    · obtain ⟨q, hq, _⟩ := hc 0 h0
      simp at hq
  | succ j =>
    obtain ⟨p, hp⟩ : ∃ p, R[j]? = some p := ⟨_, List.getElem?_eq_getElem (by omega)⟩
    rw [curs_next hp]
    have hfin := h.fin p (List.mem_of_getElem? hp)
    rcases Nat.lt_or_ge p.fin body.length with h2 | h2
    · exfalso
      obtain ⟨q, hq, h3, h4⟩ := hc p.fin h2
      obtain ⟨i, hi⟩ := mem_at hq
      have hil := (List.getElem?_eq_some_iff.1 hi).1
      have := (asc_le h.asc (show i ≤ j by omega) hi hp).2
      omega
    · omega
theorem piece_on {body l : List UInt8} {o f c : Nat} (hl : l = (body.take f).drop o) (h1 : o ≤ c) (h2 : c ≤ f) : body.take c ++ l.drop (c - o) = body.take f := by
  rw [hl, List.drop_drop, show o + (c - o) = c by omega]
  have h3 : body.take c = (body.take f).take c := by rw [List.take_take, Nat.min_eq_left h2]
  rw [h3, List.take_append_drop]
/-- A whole message's header. -/
def hsW (kd L : Nat) : List UInt8 := [UInt8.ofNat kd, UInt8.ofNat (L / 65536), UInt8.ofNat (L / 256), UInt8.ofNat L, UInt8.ofNat (0 / 256), UInt8.ofNat 0, UInt8.ofNat (0 / 65536), UInt8.ofNat (0 / 256), UInt8.ofNat 0, UInt8.ofNat (L / 65536), UInt8.ofNat (L / 256), UInt8.ofNat L]
theorem hsW_vs (kd L : Nat) (h : kd < 256) : vs (hsW kd L) = [.int .u8 (kd : Nat), .int .u8 ((L : Int) / 65536 % 256), .int .u8 ((L : Int) / 256 % 256), .int .u8 ((L : Int) % 256), .int .u8 (((0 : Nat) : Int) / 256 % 256), .int .u8 (((0 : Nat) : Int) % 256), .int .u8 (((0 : Nat) : Int) / 65536 % 256), .int .u8 (((0 : Nat) : Int) / 256 % 256), .int .u8 (((0 : Nat) : Int) % 256), .int .u8 ((L : Int) / 65536 % 256), .int .u8 ((L : Int) / 256 % 256), .int .u8 ((L : Int) % 256)] := by
  have h' : (kd : Int) % 256 = kd := by omega
  simp [vs, hsW, h']
theorem bytes_drop {R : List Rg} {j : Nat} {r : Rg} (h : R[j]? = some r) : bytesOf (R.drop j) = r.l.length + bytesOf (R.drop (j + 1)) := by
  obtain ⟨hl, hr⟩ := List.getElem?_eq_some_iff.1 h
  rw [List.drop_eq_getElem_cons hl, hr]
  simp [bytesOf]
theorem bytes_end (R : List Rg) : bytesOf (R.drop R.length) = 0 := by simp [bytesOf]
end Go.Proofs.YtadblfnggmaadaaDoor
