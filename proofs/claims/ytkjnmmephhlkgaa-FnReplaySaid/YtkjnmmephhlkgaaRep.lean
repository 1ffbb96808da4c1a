/- Plain laws: a window of numbers, kept as bits of words. -/
import Derived.Test.YtkjnmmephhlkgaaKit
namespace Go.Cv
set_option linter.unusedVariables false
/-! ### bits of a row of words -/
def wbit (ws : List Nat) (i : Nat) : Bool := (ws.getD (i / 64) 0).testBit (i % 64)
theorem getD_set (ws : List Nat) (i k v : Nat) (hi : i < ws.length) : (ws.set i v).getD k 0 = if k = i then v else ws.getD k 0 := by
  simp only [List.getD_eq_getElem?_getD, List.getElem?_set]
  by_cases h : i = k
  · subst h; simp [hi]
  · rw [if_neg h, if_neg (fun e => h e.symm)]
theorem wbit_or (ws : List Nat) (i k : Nat) (hi : i / 64 < ws.length) : wbit (ws.set (i / 64) (ws.getD (i / 64) 0 ||| 2 ^ (i % 64))) k = (wbit ws k || decide (k = i)) := by
  unfold wbit
  rw [getD_set _ _ _ _ hi]
  by_cases h : k / 64 = i / 64
  · rw [if_pos h, Nat.testBit_or, Nat.testBit_two_pow, h]
    congr 1
    have : (i % 64 = k % 64) ↔ (k = i) := by omega
    simp [this]
  · rw [if_neg h]
    have : ¬ k = i := fun e => h (by rw [e])
    simp [this]
def shl64 (x s : Nat) : Nat := (x <<< s) % 2 ^ 64
theorem shl64_bit (x s k : Nat) : (shl64 x s).testBit k = (decide (k < 64) && (decide (s ≤ k) && x.testBit (k - s))) := by
  unfold shl64
  rw [Nat.testBit_mod_two_pow, Nat.testBit_shiftLeft]
/-- A word of a row that is moved up by n bits. -/
def lshWord (ws : List Nat) (n i : Nat) : Nat :=
  shl64 (ws.getD i 0) n ||| (if n / 64 ≤ i then shl64 (ws.getD (i - n / 64) 0) (n % 64) ||| (if n / 64 + 1 ≤ i then ws.getD (i - n / 64 - 1) 0 >>> (64 - n % 64) else 0) else 0)
theorem wbit_at (ws : List Nat) (i p : Nat) (hp : p < 64) : wbit ws (64 * i + p) = (ws.getD i 0).testBit p := by
  unfold wbit
  have h1 : (64 * i + p) / 64 = i := by omega
  have h2 : (64 * i + p) % 64 = p := by omega
  rw [h1, h2]
theorem word_high (x k : Nat) (hx : x < 2 ^ 64) (hk : 64 ≤ k) : x.testBit k = false := Nat.testBit_lt_two_pow (Nat.lt_of_lt_of_le hx (Nat.pow_le_pow_right (by omega) hk))
theorem getD_small (ws : List Nat) (h : ∀ x ∈ ws, x < 2 ^ 64) (i : Nat) : ws.getD i 0 < 2 ^ 64 := by
  by_cases hi : i < ws.length
  · rw [List.getD_eq_getElem?_getD, List.getElem?_eq_getElem hi]
    exact h _ (List.getElem_mem hi)
  · rw [List.getD_eq_getElem?_getD, List.getElem?_eq_none (by omega)]
    simp
theorem or_absorb {X B : Bool} (h : X = true → B = true) : (X || B) = B := by
  cases X <;> cases B <;> simp_all
theorem lshWord_bit (ws : List Nat) (h : ∀ x ∈ ws, x < 2 ^ 64) (n i p : Nat) (hp : p < 64) : (lshWord ws n i).testBit p = (decide (n ≤ 64 * i + p) && wbit ws (64 * i + p - n)) := by
  unfold lshWord
  rw [Nat.testBit_or, shl64_bit]
  obtain ⟨q, r, hn, hr, hq, hm⟩ : ∃ q r, n = 64 * q + r ∧ r < 64 ∧ n / 64 = q ∧ n % 64 = r := ⟨n / 64, n % 64, by omega, by omega, rfl, rfl⟩
  rw [hq, hm]
  -- the part that is moved within the word
  have part : (decide (p < 64) && (decide (n ≤ p) && (ws.getD i 0).testBit (p - n))) = true → (decide (n ≤ 64 * i + p) && wbit ws (64 * i + p - n)) = true := by
    intro hh
    simp only [Bool.and_eq_true, decide_eq_true_eq] at hh ⊢
    refine ⟨by omega, ?_⟩
    have : 64 * i + p - n = 64 * i + (p - n) := by omega
    rw [this, wbit_at _ _ _ (by omega)]
    exact hh.2.2
  have rest : (if q ≤ i then shl64 (ws.getD (i - q) 0) r ||| (if q + 1 ≤ i then ws.getD (i - q - 1) 0 >>> (64 - r) else 0) else 0).testBit p = (decide (n ≤ 64 * i + p) && wbit ws (64 * i + p - n)) := by
    by_cases hqi : q ≤ i
    · rw [if_pos hqi, Nat.testBit_or, shl64_bit]
      by_cases hrp : r ≤ p
      · have e : 64 * i + p - n = 64 * (i - q) + (p - r) := by omega
        have hz : (if q + 1 ≤ i then ws.getD (i - q - 1) 0 >>> (64 - r) else 0).testBit p = false := by
          split
          · rw [Nat.testBit_shiftRight]
            exact word_high _ _ (getD_small ws h _) (by omega)
          · simp
        rw [hz, e, wbit_at _ _ _ (by omega)]
        have d1 : decide (n ≤ 64 * i + p) = true := by simp; omega
        have d2 : decide (p < 64) = true := by simp; omega
        have d3 : decide (r ≤ p) = true := by simp; omega
        rw [d1, d2, d3]
        simp
      · have d3 : decide (r ≤ p) = false := by simp; omega
        rw [d3]
        by_cases hq1 : q + 1 ≤ i
        · rw [if_pos hq1, Nat.testBit_shiftRight]
          have e : 64 * i + p - n = 64 * (i - q - 1) + (64 - r + p) := by omega
          rw [e, wbit_at _ _ _ (by omega)]
          have d1 : decide (n ≤ 64 * i + p) = true := by simp; omega
          rw [d1]
          simp
        · rw [if_neg hq1]
          have d1 : decide (n ≤ 64 * i + p) = false := by simp; omega
          rw [d1]
          simp
    · rw [if_neg hqi]
      have d1 : decide (n ≤ 64 * i + p) = false := by simp; omega
      rw [d1]
      simp
  rw [rest]
  exact or_absorb part
theorem shl64_lt (x s : Nat) : shl64 x s < 2 ^ 64 := Nat.mod_lt _ (by decide)
theorem lshWord_lt (ws : List Nat) (h : ∀ x ∈ ws, x < 2 ^ 64) (n i : Nat) : lshWord ws n i < 2 ^ 64 := by
  unfold lshWord
  refine Nat.or_lt_two_pow (shl64_lt _ _) ?_
  split
  · refine Nat.or_lt_two_pow (shl64_lt _ _) ?_
    split
    · exact Nat.lt_of_le_of_lt (Nat.shiftRight_le _ _) (getD_small ws h _)
    · decide
  · decide
/-- The row while it is moved: the words from k on are done. -/
def lshRow (ws : List Nat) (n k : Nat) : List Nat := (List.range ws.length).map fun j => if j < k then ws.getD j 0 else lshWord ws n j
theorem lshRow_length (ws : List Nat) (n k : Nat) : (lshRow ws n k).length = ws.length := by simp [lshRow]
theorem lshRow_getD (ws : List Nat) (n k j : Nat) (hj : j < ws.length) : (lshRow ws n k).getD j 0 = if j < k then ws.getD j 0 else lshWord ws n j := by
  simp [lshRow, List.getD_eq_getElem?_getD, hj]
theorem lshRow_start (ws : List Nat) (n : Nat) : lshRow ws n ws.length = ws := by
  apply List.ext_getElem (lshRow_length ws n _)
  intro i h1 h2
  simp [lshRow, h2]
theorem lshRow_step (ws : List Nat) (n k : Nat) (hk : k < ws.length) : (lshRow ws n (k + 1)).set k (lshWord ws n k) = lshRow ws n k := by
  apply List.ext_getElem (by simp [lshRow])
  intro i h1 h2
  rw [List.getElem_set]
  simp only [lshRow, List.getElem_map, List.getElem_range]
  by_cases h : k = i
  · subst h; simp
  · rw [if_neg h]
    by_cases h3 : i < k
    · rw [if_pos h3, if_pos (by omega)]
    · rw [if_neg h3, if_neg (by omega)]
/-- The row behind the move: the last word is cut by a mask. -/
def lshDone (ws : List Nat) (n msk : Nat) : List Nat := (lshRow ws n 0).set (ws.length - 1) ((lshRow ws n 0).getD (ws.length - 1) 0 &&& msk)
/-- The mask for a window of W bits. -/
def mskOf (W : Nat) : Nat := 2 ^ (64 - W % 64) - 1
theorem lshDone_bit (ws : List Nat) (h : ∀ x ∈ ws, x < 2 ^ 64) (n W k : Nat) (hl : ws.length = (W + 63) / 64) (hW : W % 64 ≤ 32) (hk : k < W) : wbit (lshDone ws n (mskOf W)) k = (decide (n ≤ k) && wbit ws (k - n)) := by
  have hkl : k / 64 < ws.length := by omega
  have hp : k % 64 < 64 := by omega
  have e : 64 * (k / 64) + k % 64 = k := by omega
  have hb := lshWord_bit ws h n (k / 64) (k % 64) hp
  rw [e] at hb
  have hlt : ws.length - 1 < (lshRow ws n 0).length := by rw [lshRow_length]; omega
  unfold lshDone
  rw [wbit, getD_set _ _ _ _ hlt]
  by_cases hlast : k / 64 = ws.length - 1
  · rw [if_pos hlast, Nat.testBit_and, ← hlast, lshRow_getD _ _ _ _ hkl, if_neg (by omega), hb]
    have : (mskOf W).testBit (k % 64) = true := by
      unfold mskOf
      rw [Nat.testBit_two_pow_sub_one]
      simp only [decide_eq_true_eq]
      omega
    rw [this, Bool.and_true]
  · rw [if_neg hlast, lshRow_getD _ _ _ _ hkl, if_neg (by omega), hb]
theorem lshDone_length (ws : List Nat) (n msk : Nat) : (lshDone ws n msk).length = ws.length := by simp [lshDone, lshRow_length]
theorem lshDone_small (ws : List Nat) (h : ∀ x ∈ ws, x < 2 ^ 64) (n msk : Nat) : ∀ x ∈ lshDone ws n msk, x < 2 ^ 64 := by
  have h0 : ∀ x ∈ lshRow ws n 0, x < 2 ^ 64 := by
    intro x hx
    simp only [lshRow, List.mem_map, List.mem_range] at hx
    obtain ⟨j, _, rfl⟩ := hx
    simp only [Nat.not_lt_zero, if_false]
    exact lshWord_lt ws h n j
  intro x hx
  rcases List.mem_or_eq_of_mem_set hx with hx | rfl
  · exact h0 x hx
  · exact Nat.lt_of_le_of_lt Nat.and_le_left (getD_small _ h0 _)
/-! ### the window -/
/-- The latest number and those that were taken. -/
def fr (W M : Nat) (s : Nat × List Nat) (n : Nat) : Bool :=
  if M < n then false else if s.2.isEmpty || decide (s.1 < n) then true else if W ≤ s.1 - n then false else !s.2.contains n
def tk (s : Nat × List Nat) (n : Nat) : Nat × List Nat := (if s.2.isEmpty || decide (s.1 < n) then n else s.1, s.2 ++ [n])
/-- The words tell which of the last W numbers were taken. -/
structure Rep (W : Nat) (ws : List Nat) (s : Nat × List Nat) : Prop where
  len : ws.length = (W + 63) / 64
  small : ∀ x ∈ ws, x < 2 ^ 64
  bit : ∀ i, i < W → wbit ws i = (decide (i ≤ s.1) && s.2.contains (s.1 - i))
  le : ∀ t ∈ s.2, t ≤ s.1
  nil : s.2 = [] → s.1 = 0
theorem rep_nil (W : Nat) : Rep W (List.replicate ((W + 63) / 64) 0) (0, []) := by
  refine ⟨by simp, ?_, ?_, by simp, fun _ => rfl⟩
  · intro x hx
    rw [List.mem_replicate] at hx
    rw [hx.2]; decide
  · intro i hi
    have : (List.replicate ((W + 63) / 64) 0).getD (i / 64) 0 = 0 := by
      rw [List.getD_eq_getElem?_getD, List.getElem?_replicate]
      split <;> rfl
    rw [wbit, this]
    simp
/-- What the library asks of a number. -/
def frI (W M l : Nat) (ws : List Nat) (n : Nat) : Bool := if M < n then false else if n ≤ l then (if W + n ≤ l then false else !wbit ws (l - n)) else true
theorem fr_eq {W M : Nat} {ws : List Nat} {s : Nat × List Nat} (h : Rep W ws s) (hW : 1 ≤ W) (n : Nat) : frI W M s.1 ws n = fr W M s n := by
  unfold frI fr
  by_cases h1 : M < n
  · simp [h1]
  rw [if_neg h1, if_neg h1]
  by_cases h2 : n ≤ s.1
  · rw [if_pos h2]
    have d : decide (s.1 < n) = false := by simp; omega
    rw [d, Bool.or_false]
    cases he : s.2.isEmpty with
    | true =>
      have e0 : s.2 = [] := by simpa using he
      have l0 := h.nil e0
      rw [if_pos rfl, if_neg (by omega), h.bit _ (by omega), e0]
      simp
    | false =>
      simp only [Bool.false_eq_true, if_false]
      by_cases h3 : W + n ≤ s.1
      · rw [if_pos h3, if_pos (by omega)]
      · rw [if_neg h3, if_neg (by omega), h.bit _ (by omega)]
        have : s.1 - (s.1 - n) = n := by omega
        rw [this]
        have d2 : decide (s.1 - n ≤ s.1) = true := by simp
        rw [d2, Bool.true_and]
  · have d : decide (s.1 < n) = true := by simp; omega
    rw [if_neg h2, d]
    simp
/-- What the library makes of a number that is taken. -/
def tkI (W l : Nat) (ws : List Nat) (n : Nat) : List Nat := 
  let w1 := if l < n then lshDone ws (n - l) (mskOf W) else ws
  let d := (if l < n then n else l) - n
  w1.set (d / 64) (w1.getD (d / 64) 0 ||| 2 ^ (d % 64))
theorem rep_take {W M : Nat} {ws : List Nat} {s : Nat × List Nat} (h : Rep W ws s) (hW : 1 ≤ W) (hW2 : W % 64 ≤ 32) (n : Nat) (hf : fr W M s n = true) :
    Rep W (tkI W s.1 ws n) (tk s n) ∧ (tk s n).1 = (if s.1 < n then n else s.1) ∧ (tk s n).1 - n < W := by
  have hlat : (tk s n).1 = (if s.1 < n then n else s.1) := by
    unfold tk
    by_cases h1 : s.1 < n
    · simp [h1]
    · cases he : s.2.isEmpty with
      | true =>
        have e0 : s.2 = [] := by simpa using he
        have l0 := h.nil e0
        simp; omega
      | false => simp
  have hd : (tk s n).1 - n < W := by
    rw [hlat]
    by_cases h1 : s.1 < n
    · rw [if_pos h1]; omega
    · rw [if_neg h1]
      unfold fr at hf
      by_cases hM : M < n
      · simp [hM] at hf
      · rw [if_neg hM] at hf
        cases he : s.2.isEmpty with
        | true =>
          have e0 : s.2 = [] := by simpa using he
          have l0 := h.nil e0
          omega
        | false =>
          have d : decide (s.1 < n) = false := by simp; omega
          rw [he, d] at hf
          simp only [Bool.or_self, Bool.false_eq_true, if_false] at hf
          by_cases h3 : W ≤ s.1 - n
          · rw [if_pos h3] at hf; simp at hf
          · omega
  refine ⟨?_, hlat, hd⟩
  have hl1 : (if s.1 < n then lshDone ws (n - s.1) (mskOf W) else ws).length = ws.length := by split <;> simp [lshDone_length]
  have hs1 : ∀ x ∈ (if s.1 < n then lshDone ws (n - s.1) (mskOf W) else ws), x < 2 ^ 64 := by
    split
    · exact lshDone_small ws h.small _ _
    · exact h.small
  have hb1 : ∀ k, k < W → wbit (if s.1 < n then lshDone ws (n - s.1) (mskOf W) else ws) k = (decide (k ≤ (tk s n).1) && s.2.contains ((tk s n).1 - k)) := by
    intro k hk
    rw [hlat]
    by_cases h1 : s.1 < n
    · rw [if_pos h1, if_pos h1, lshDone_bit ws h.small _ W k h.len hW2 hk]
      by_cases h2 : n - s.1 ≤ k
      · rw [h.bit _ (by omega)]
        have d1 : decide (n - s.1 ≤ k) = true := by simpa using h2
        have d2 : decide (k - (n - s.1) ≤ s.1) = decide (k ≤ n) := by
          have : (k - (n - s.1) ≤ s.1) ↔ (k ≤ n) := by omega
          simp [this]
        rw [d1, d2, Bool.true_and]
        by_cases h3 : k ≤ n
        · have e : s.1 - (k - (n - s.1)) = n - k := by omega
          rw [e]
        · have d3 : decide (k ≤ n) = false := by simpa using h3
          rw [d3]; simp
      · have d1 : decide (n - s.1 ≤ k) = false := by simpa using h2
        rw [d1, Bool.false_and]
        have : s.2.contains (n - k) = false := by
          cases hc : s.2.contains (n - k) with
          | false => rfl
          | true =>
            have hm : n - k ∈ s.2 := by simpa using hc
            have := h.le _ hm
            omega
        rw [this, Bool.and_false]
    · rw [if_neg h1, if_neg h1]
      exact h.bit k hk
  have hdl : ((tk s n).1 - n) / 64 < (if s.1 < n then lshDone ws (n - s.1) (mskOf W) else ws).length := by
    rw [hl1, h.len]; omega
  have e : tkI W s.1 ws n = (if s.1 < n then lshDone ws (n - s.1) (mskOf W) else ws).set (((tk s n).1 - n) / 64) ((if s.1 < n then lshDone ws (n - s.1) (mskOf W) else ws).getD (((tk s n).1 - n) / 64) 0 ||| 2 ^ (((tk s n).1 - n) % 64)) := by
    unfold tkI
    rw [hlat]
  rw [e]
  have hnle : n ≤ (tk s n).1 := by rw [hlat]; split <;> omega
  refine ⟨by rw [List.length_set, hl1, h.len], ?_, ?_, ?_, ?_⟩
  · intro x hx
    rcases List.mem_or_eq_of_mem_set hx with hx | rfl
    · exact hs1 x hx
    · exact Nat.or_lt_two_pow (getD_small _ hs1 _) (Nat.pow_lt_pow_right (by omega) (by omega))
  · intro k hk
    rw [wbit_or _ _ _ hdl, hb1 k hk]
    have e2 : (tk s n).2 = s.2 ++ [n] := rfl
    rw [e2]
    by_cases h3 : k ≤ (tk s n).1
    · have d3 : decide (k ≤ (tk s n).1) = true := by simpa using h3
      rw [d3, Bool.true_and, Bool.true_and]
      have : (k = (tk s n).1 - n) ↔ ((tk s n).1 - k = n) := by omega
      rw [List.contains_eq_any_beq, List.contains_eq_any_beq, List.any_append]
      congr 1
      have : decide (k = (tk s n).1 - n) = decide ((tk s n).1 - k = n) := by simp [this]
      rw [this]
      simp only [List.any_cons, List.any_nil, Bool.or_false]
      rfl
    · have d3 : decide (k ≤ (tk s n).1) = false := by simpa using h3
      have d4 : decide (k = (tk s n).1 - n) = false := by simp; omega
      rw [d3, d4]; simp
  · intro t ht
    have e2 : (tk s n).2 = s.2 ++ [n] := rfl
    rw [e2] at ht
    rcases List.mem_append.1 ht with ht | ht
    · have := h.le t ht
      rw [hlat]; split <;> omega
    · simp at ht; subst ht; exact hnle
  · intro hh
    have e2 : (tk s n).2 = s.2 ++ [n] := rfl
    rw [e2] at hh
    simp at hh
/-! ### number by number -/
def rst (W M : Nat) (zs : List Nat) (fs : List Bool) : Nat → Nat × List Nat
  | 0 => (0, [])
  | j + 1 => if fr W M (rst W M zs fs j) (zs.getD j 0) && fs.getD j false then tk (rst W M zs fs j) (zs.getD j 0) else rst W M zs fs j
def rout (W M : Nat) (zs : List Nat) (fs : List Bool) (j : Nat) : List Bool := (List.range j).map fun i => fr W M (rst W M zs fs i) (zs.getD i 0)
theorem rout_next (W M : Nat) (zs : List Nat) (fs : List Bool) (j : Nat) : rout W M zs fs (j + 1) = rout W M zs fs j ++ [fr W M (rst W M zs fs j) (zs.getD j 0)] := by simp [rout, List.range_succ]
theorem rout_length (W M : Nat) (zs : List Nat) (fs : List Bool) (j : Nat) : (rout W M zs fs j).length = j := by simp [rout]
theorem rst_taken (W M : Nat) (zs : List Nat) (fs : List Bool) (j : Nat) : (rst W M zs fs j).2.length ≤ j := by
  induction j with
  | zero => simp [rst]
  | succ i ih =>
    rw [rst]
    split
    · simp [tk]; omega
    · omega
end Go.Cv
