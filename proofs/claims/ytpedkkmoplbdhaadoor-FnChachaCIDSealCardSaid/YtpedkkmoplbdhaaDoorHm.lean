/- Plain laws: a keyed hash over the small one. -/
import Derived.Test.YtpedkkmoplbdhaaDoorToy
import Derived.Laws.BitsAllLaws
namespace Go.Cv
open Go.RowKit
set_option linter.unusedVariables false
/-- A key as long as a block: cut, or filled up with zeros. -/
def padKey (bs : Nat) (key : List UInt8) : List UInt8 := key.take bs ++ List.replicate (bs - key.length) 0
theorem padKey_length (bs : Nat) (key : List UInt8) : (padKey bs key).length = bs := by simp [padKey]; omega
def hmKey (kind : Nat) (key : List UInt8) : List UInt8 := if toyBlock kind < key.length then toySum kind key else key
/-- The first j bytes are turned by c. -/
def xorPart (c : UInt8) (j : Nat) (l : List UInt8) : List UInt8 := (l.take j).map (· ^^^ c) ++ l.drop j
theorem xorPart_zero (c : UInt8) (l : List UInt8) : xorPart c 0 l = l := by simp [xorPart]
theorem xorPart_length (c : UInt8) (j : Nat) (l : List UInt8) : (xorPart c j l).length = l.length := by simp [xorPart]; omega
theorem xorPart_all (c : UInt8) (l : List UInt8) : xorPart c l.length l = l.map (· ^^^ c) := by simp [xorPart]
theorem xorPart_at (c : UInt8) (j : Nat) (l : List UInt8) (hj : j < l.length) : (xorPart c j l).getD j 0 = l.getD j 0 := by
  have : ((l.take j).map (· ^^^ c)).length = j := by simp; omega
  rw [xorPart, List.getD_eq_getElem?_getD, List.getElem?_append_right (by omega), this, Nat.sub_self, List.getElem?_drop, Nat.add_zero, List.getD_eq_getElem?_getD]
theorem xorPart_step (c : UInt8) (j : Nat) (l : List UInt8) (hj : j < l.length) : (xorPart c j l).set j (l.getD j 0 ^^^ c) = xorPart c (j + 1) l := by
  have hl : ((l.take j).map (· ^^^ c)).length = j := by simp; omega
  unfold xorPart
  rw [List.set_append_right _ _ (by omega), hl, Nat.sub_self, List.drop_eq_getElem_cons hj, List.set_cons_zero]
  have : l.getD j 0 = l[j] := by simp [List.getD, hj]
  rw [this, List.take_succ_eq_append_getElem hj, List.map_append, List.append_assoc]
  rfl
def hmPad (c : UInt8) (kind : Nat) (key : List UInt8) : List UInt8 := (padKey (toyBlock kind) (hmKey kind key)).map (· ^^^ c)
theorem hmPad_length (c : UInt8) (kind : Nat) (key : List UInt8) : (hmPad c kind key).length = toyBlock kind := by rw [hmPad, List.length_map, padKey_length]
def toyHmac (kind : Nat) (key text : List UInt8) : List UInt8 := toySum kind (hmPad 92 kind key ++ toySum kind (hmPad 54 kind key ++ text))
theorem toyHmac_length (kind : Nat) (key text : List UInt8) : (toyHmac kind key text).length = toySize kind := toySum_length _ _
theorem hmKey_length (kind : Nat) (key : List UInt8) : (hmKey kind key).length ≤ key.length ∨ (hmKey kind key).length = toySize kind := by
  unfold hmKey; split
  · exact .inr (toySum_length _ _)
  · exact .inl (Nat.le_refl _)
theorem vs_xor54 (x : UInt8) : bits .xor .u8 (x.toNat : Int) 54 = (((x ^^^ 54 : UInt8)).toNat : Int) := by
  have h := u8_xor_nat x.toNat 54 x.toNat_lt (by omega)
  rw [UInt8.toNat_xor]
  exact h
theorem vs_xor92 (x : UInt8) : bits .xor .u8 (x.toNat : Int) 92 = (((x ^^^ 92 : UInt8)).toNat : Int) := by
  have h := u8_xor_nat x.toNat 92 x.toNat_lt (by omega)
  rw [UInt8.toNat_xor]
  exact h
theorem vs_set_ (l : List UInt8) (i : Nat) (x : UInt8) : (vs l).set i (.int .u8 x.toNat) = vs (l.set i x) := by simp [vs, List.map_set]
theorem own_vs {w : World} {B r n c : Nat} {l : List UInt8} (h : Own w B 1 (some ⟨r, 0, none⟩) n c (vs l)) (i : Nat) (hi : i < n) : w.cell? ⟨r, i, none⟩ = some (.int .u8 (l.getD i 0).toNat) ∧ w.frozen? ⟨r, i, none⟩ = false := by
  obtain ⟨v, h1, h2, h3⟩ := h.at_ i hi
  have hl : i < l.length := by have := h.1; rw [vs_length] at this; omega
  have : (vs l)[i]? = some (.int .u8 (l.getD i 0).toNat) := by simp [vs, List.getD, hl]
  rw [this] at h1
  obtain rfl := Option.some.inj h1
  simp only [Nat.zero_add] at h2 h3
  exact ⟨h2, h3⟩
theorem own_vs_set {w : World} {B r n c : Nat} {l : List UInt8} (h : Own w B 1 (some ⟨r, 0, none⟩) n c (vs l)) (i : Nat) (x : UInt8) (hi : i < n) : Own (w.setCell ⟨r, i, none⟩ (.int .u8 x.toNat)) B 1 (some ⟨r, 0, none⟩) n c (vs (l.set i x)) := by
  have h1 := h.set i hi (.int .u8 x.toNat)
  rw [vs_set_] at h1
  simp only [Nat.zero_add] at h1
  exact h1
/-- A copy of a key into zeros is the filled key. -/
theorem copy_pad (bs : Nat) (key : List UInt8) : (List.replicate bs (Value.int .u8 0)).take 0 ++ (vs (key.take bs) ++ (List.replicate bs (Value.int .u8 0)).drop (0 + (vs (key.take bs)).length)) = vs (padKey bs key) := by
  have hz : ∀ n, vs (List.replicate n 0) = List.replicate n (Value.int .u8 0) := by intro n; simp [vs]
  rw [vs_length, padKey, vs_append, hz]
  simp [List.length_take]
  omega
end Go.Cv
