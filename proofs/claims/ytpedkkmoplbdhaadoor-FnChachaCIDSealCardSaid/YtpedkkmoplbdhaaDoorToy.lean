/- Plain laws: a small hash. -/
import Derived.Test.YtpedkkmoplbdhaaDoorOps6
namespace Go.Cv
open Go.RowKit
set_option linter.unusedVariables false
def toySize (kind : Nat) : Nat := 4 + 4 * (kind % 8)
def toyBlock (kind : Nat) : Nat := 8 + 8 * (kind / 8 % 8)
theorem toySize_le (kind : Nat) : 4 ≤ toySize kind ∧ toySize kind ≤ 32 := by unfold toySize; omega
theorem toyBlock_le (kind : Nat) : 8 ≤ toyBlock kind ∧ toyBlock kind ≤ 64 := by unfold toyBlock; omega
def sumFirst (n kind len k : Nat) : List Nat := ((List.range k).map fun i => (7 * i + kind + len) % 256) ++ List.replicate (n - k) 0
def mixA (x c y i : Nat) : Nat := ((((x + c) % 256 * 29) % 256 ^^^ y) + i % 256) % 256
def mixB (x y i : Nat) : Nat := (((x * 13) % 256 + y) % 256 + i % 256) % 256
def sumA (n kind : Nat) (l : List UInt8) : Nat → List Nat
  | 0 => sumFirst n kind l.length n
  | i + 1 => (sumA n kind l i).set (i % n) (mixA ((sumA n kind l i).getD (i % n) 0) (l.getD i 0).toNat ((sumA n kind l i).getD ((i % n + 1) % n) 0) i)
def sumB (n kind : Nat) (l : List UInt8) : Nat → List Nat
  | 0 => sumA n kind l l.length
  | i + 1 => (sumB n kind l i).set (i % n) (mixB ((sumB n kind l i).getD (i % n) 0) ((sumB n kind l i).getD ((i % n + n - 1) % n) 0) i)
def toySum (kind : Nat) (l : List UInt8) : List UInt8 := (sumB (toySize kind) kind l (2 * toySize kind)).map UInt8.ofNat
theorem sumFirst_length (n kind len k : Nat) (h : k ≤ n) : (sumFirst n kind len k).length = n := by simp [sumFirst]; omega
theorem sumFirst_step (n kind len k : Nat) (h : k < n) : (sumFirst n kind len k).set k ((7 * k + kind + len) % 256) = sumFirst n kind len (k + 1) := by
  unfold sumFirst
  have hl : ((List.range k).map fun i => (7 * i + kind + len) % 256).length = k := by simp
  rw [List.set_append_right _ _ (by rw [hl]; exact Nat.le_refl _), hl, Nat.sub_self, List.range_succ, List.map_append, List.append_assoc]
  congr 1
  obtain ⟨d, hd⟩ : ∃ d, n - k = d + 1 := ⟨n - k - 1, by omega⟩
  have hd2 : n - (k + 1) = d := by omega
  rw [hd, hd2, List.replicate_succ]
  rfl
theorem sumA_length (n kind : Nat) (l : List UInt8) (i : Nat) : (sumA n kind l i).length = n := by
  induction i with
  | zero => exact sumFirst_length _ _ _ _ (Nat.le_refl _)
  | succ i ih => rw [sumA, List.length_set, ih]
theorem sumB_length (n kind : Nat) (l : List UInt8) (i : Nat) : (sumB n kind l i).length = n := by
  induction i with
  | zero => exact sumA_length _ _ _ _
  | succ i ih => rw [sumB, List.length_set, ih]
theorem sumFirst_small (n kind len k : Nat) : ∀ x ∈ sumFirst n kind len k, x < 256 := by
  intro x hx
  simp only [sumFirst, List.mem_append, List.mem_map, List.mem_replicate] at hx
  rcases hx with ⟨i, _, rfl⟩ | ⟨_, rfl⟩
  · exact Nat.mod_lt _ (by omega)
  · omega
theorem sumA_small (n kind : Nat) (l : List UInt8) (i : Nat) : ∀ x ∈ sumA n kind l i, x < 256 := by
  induction i with
  | zero => exact sumFirst_small _ _ _ _
  | succ i ih =>
    intro x hx
    rw [sumA] at hx
    rcases List.mem_or_eq_of_mem_set hx with hx | rfl
    · exact ih x hx
    · exact Nat.mod_lt _ (by omega)
theorem sumB_small (n kind : Nat) (l : List UInt8) (i : Nat) : ∀ x ∈ sumB n kind l i, x < 256 := by
  induction i with
  | zero => exact sumA_small _ _ _ _
  | succ i ih =>
    intro x hx
    rw [sumB] at hx
    rcases List.mem_or_eq_of_mem_set hx with hx | rfl
    · exact ih x hx
    · exact Nat.mod_lt _ (by omega)
theorem getD_lt {ws : List Nat} {B : Nat} (h : ∀ x ∈ ws, x < B) (h0 : 0 < B) (i : Nat) : ws.getD i 0 < B := by
  by_cases hi : i < ws.length
  · rw [List.getD_eq_getElem?_getD, List.getElem?_eq_getElem hi]
    exact h _ (List.getElem_mem hi)
  · rw [List.getD_eq_getElem?_getD, List.getElem?_eq_none (by omega)]
    simpa using h0
theorem toySum_length (kind : Nat) (l : List UInt8) : (toySum kind l).length = toySize kind := by simp [toySum, sumB_length]
/-- Bytes as cells. -/
def nv (st : List Nat) : List Value := st.map fun x => Value.int .u8 (x : Nat)
theorem nv_length (st : List Nat) : (nv st).length = st.length := by simp [nv]
theorem nv_set (st : List Nat) (i x : Nat) : (nv st).set i (.int .u8 (x : Nat)) = nv (st.set i x) := by simp [nv, List.map_set]
theorem nv_at (st : List Nat) (i : Nat) (hi : i < st.length) : (nv st)[i]? = some (.int .u8 (st.getD i 0 : Nat)) := by simp [nv, List.getD, hi]
theorem nv_vs (st : List Nat) (h : ∀ x ∈ st, x < 256) : nv st = vs (st.map UInt8.ofNat) := by
  unfold nv vs
  rw [List.map_map]
  refine List.map_congr_left (fun x hx => ?_)
  have := h x hx
  simp
  omega
theorem own_nv {w : World} {B r n c : Nat} {st : List Nat} (h : Own w B 1 (some ⟨r, 0, none⟩) n c (nv st)) (hl : st.length = n) (i : Nat) (hi : i < n) : w.cell? ⟨r, i, none⟩ = some (.int .u8 (st.getD i 0 : Nat)) ∧ w.frozen? ⟨r, i, none⟩ = false := by
  obtain ⟨v, h1, h2, h3⟩ := h.at_ i hi
  rw [nv_at _ _ (by rw [hl]; exact hi)] at h1
  obtain rfl := Option.some.inj h1
  simp only [Nat.zero_add] at h2 h3
  exact ⟨h2, h3⟩
theorem own_nv_set {w : World} {B r n c : Nat} {st : List Nat} (h : Own w B 1 (some ⟨r, 0, none⟩) n c (nv st)) (i x : Nat) (hi : i < n) : Own (w.setCell ⟨r, i, none⟩ (.int .u8 (x : Nat))) B 1 (some ⟨r, 0, none⟩) n c (nv (st.set i x)) := by
  have h1 := h.set i hi (.int .u8 (x : Nat))
  rw [nv_set] at h1
  simp only [Nat.zero_add] at h1
  exact h1
theorem nv_zero (n : Nat) : nv (List.replicate n 0) = List.replicate n (Value.int .u8 0) := by simp [nv]
/-! numbers of the walk -/
theorem u8_add (x c : Nat) : IntKind.u8.wrap ((x : Int) + c) = (((x + c) % 256 : Nat) : Int) := by rw [IntKind.wrap_u8]; omega
theorem u8_mul29 (x : Nat) : IntKind.u8.wrap ((x : Int) * 29) = ((x * 29 % 256 : Nat) : Int) := by rw [IntKind.wrap_u8]; omega
theorem u8_mul13 (x : Nat) : IntKind.u8.wrap ((x : Int) * 13) = ((x * 13 % 256 : Nat) : Int) := by rw [IntKind.wrap_u8]; omega
theorem u8_nat (x : Nat) : IntKind.u8.wrap (x : Int) = ((x % 256 : Nat) : Int) := by rw [IntKind.wrap_u8]; omega
theorem i64_nat (a : Nat) (h : a < 4294967296) : IntKind.i64.wrap (a : Int) = (a : Int) := by rw [IntKind.wrap_i64]; omega
theorem mod_nat (j n : Nat) : (j : Int) % n = ((j % n : Nat) : Int) := by rfl
theorem tmod_nat (j n : Nat) : (j : Int).tmod n = ((j % n : Nat) : Int) := by rw [Int.tmod_eq_emod_of_nonneg (by omega)]; rfl
theorem w64_inc {j n : Nat} (h : j < n) (hn : n ≤ 4294967296) : wrap64 ((j : Int) + 1) = (j : Int) + 1 := by unfold wrap64; omega
theorem cast_add (a b c : Nat) (h : a + b = c) : (a : Int) + b = (c : Int) := by omega
theorem cast_inc (a c : Nat) (h : a + 1 = c) : (a : Int) + 1 = (c : Int) := by omega
theorem cast_dec (a c : Nat) (h : a - 1 = c) (h0 : 0 < a) : (a : Int) - 1 = (c : Int) := by omega
theorem w64_two (n : Nat) (h : n ≤ 32) : wrap64 (2 * (n : Int)) = 2 * (n : Int) := by unfold wrap64; omega
theorem lt_two {j n : Nat} (h : j < 2 * n) : decide ((j : Int) < 2 * (n : Int)) = true ∧ (j : Int) < 2 * (n : Int) := ⟨by simp; omega, by omega⟩
theorem first_u8 (j kind len : Nat) : IntKind.u8.wrap (7 * (j : Int) + kind + len) = (((7 * j + kind + len) % 256 : Nat) : Int) := by rw [IntKind.wrap_u8]; omega
end Go.Cv
