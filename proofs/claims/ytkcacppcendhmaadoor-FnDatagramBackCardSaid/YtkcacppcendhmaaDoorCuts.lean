/- Datagrams that are cut into records: the plain law; no program text. -/
import Derived.Test.YtkcacppcendhmaaDoorElems
namespace Go.Cv
open Go.RowKit
set_option linter.unusedVariables false
/-- The length of the record at the head, if there is a whole one. -/
def recLen (l : List UInt8) : Nat := 13 + ((l.getD 11 0).toNat * 256 + (l.getD 12 0).toNat)
/-- The bytes l are these records, one behind the other. -/
inductive Cut : List UInt8 → List (List UInt8) → Prop
  | nil : Cut [] []
  | cons (l : List UInt8) (zs : List (List UInt8)) : 13 < l.length → recLen l ≤ l.length → Cut (l.drop (recLen l)) zs → Cut l (l.take (recLen l) :: zs)
theorem cut_nil (r : List (List UInt8)) : Cut [] r ↔ r = [] := by
  constructor
  · intro h
    cases h with
    | nil => rfl
    | cons => simp at *
  · rintro rfl; exact .nil
theorem cut_short {l : List UInt8} (h0 : l ≠ []) (h : l.length ≤ 13) (r : List (List UInt8)) : ¬ Cut l r := by
  intro hc
  cases hc with
  | nil => exact h0 rfl
  | cons => omega
theorem cut_long {l : List UInt8} (h0 : l ≠ []) (h : l.length < recLen l) (r : List (List UInt8)) : ¬ Cut l r := by
  intro hc
  cases hc with
  | nil => exact h0 rfl
  | cons => omega
theorem cut_cons {l : List UInt8} (h : 13 < l.length) (h2 : recLen l ≤ l.length) (r : List (List UInt8)) : Cut l r ↔ ∃ r', r = l.take (recLen l) :: r' ∧ Cut (l.drop (recLen l)) r' := by
  constructor
  · intro hc
    cases hc with
    | nil => simp at h
    | cons _ zs _ _ hc => exact ⟨zs, rfl, hc⟩
  · rintro ⟨r', rfl, hc⟩
    exact .cons l r' h h2 hc
/-- Of l the records zs have been cut off, f bytes. -/
def CutAt (l : List UInt8) (f : Nat) (zs : List (List UInt8)) : Prop := ∀ ys, Cut l ys ↔ ∃ r, ys = zs ++ r ∧ Cut (l.drop f) r
theorem CutAt.start (l : List UInt8) : CutAt l 0 [] := fun ys => by simp
theorem CutAt.next {l : List UInt8} {f : Nat} {zs : List (List UInt8)} (h : CutAt l f zs) (h1 : 13 < (l.drop f).length) (h2 : recLen (l.drop f) ≤ (l.drop f).length) : CutAt l (f + recLen (l.drop f)) (zs ++ [(l.drop f).take (recLen (l.drop f))]) := fun ys => by
  rw [h ys]
  constructor
  · rintro ⟨r, rfl, hc⟩
    obtain ⟨r', rfl, hc'⟩ := (cut_cons h1 h2 r).1 hc
    exact ⟨r', by simp, by rwa [List.drop_drop] at hc'⟩
  · rintro ⟨r, rfl, hc⟩
    exact ⟨_ :: r, by simp, (cut_cons h1 h2 _).2 ⟨r, rfl, by rwa [List.drop_drop]⟩⟩
theorem CutAt.done {l : List UInt8} {zs : List (List UInt8)} (h : CutAt l l.length zs) (ys : List (List UInt8)) : Cut l ys ↔ ys = zs := by
  rw [h ys, List.drop_length]
  constructor
  · rintro ⟨r, rfl, hc⟩
    rw [cut_nil] at hc
    simp [hc]
  · rintro rfl
    exact ⟨[], by simp, .nil⟩
theorem CutAt.none_ {l : List UInt8} {f : Nat} {zs : List (List UInt8)} (h : CutAt l f zs) (hn : ∀ r, ¬ Cut (l.drop f) r) (ys : List (List UInt8)) : ¬ Cut l ys := fun hc => by
  obtain ⟨r, _, h2⟩ := (h ys).1 hc
  exact hn r h2
/-- A record: eleven bytes, the length of what it holds in two bytes, and that: not nothing. -/
def IsRec (r : List UInt8) : Prop := ∃ h k c : List UInt8, h.length = 11 ∧ (∃ p q : UInt8, k = [p, q] ∧ p.toNat * 256 + q.toNat = c.length) ∧ 0 < c.length ∧ r = h ++ (k ++ c)
theorem IsRec.len {r : List UInt8} (h : IsRec r) (t : List UInt8) : recLen (r ++ t) = r.length ∧ 13 < r.length := by
  obtain ⟨h, k, c, h1, ⟨p, q, rfl, hpq⟩, h0, rfl⟩ := h
  have e1 : ((h ++ ([p, q] ++ c)) ++ t).getD 11 0 = p := by
    simp only [List.getD]
    rw [List.append_assoc, List.getElem?_append_right (by omega), h1]
    simp
  have e2 : ((h ++ ([p, q] ++ c)) ++ t).getD 12 0 = q := by
    simp only [List.getD]
    rw [List.append_assoc, List.getElem?_append_right (by omega), h1]
    simp
  unfold recLen
  rw [e1, e2, hpq]
  simp [h1]
  omega
theorem cut_recs : ∀ (ws : List (List UInt8)), (∀ r ∈ ws, IsRec r) → Cut ws.flatten ws
  | [], _ => .nil
  | r :: ws, h => by
    have ih := cut_recs ws (fun x hx => h x (List.mem_cons_of_mem _ hx))
    obtain ⟨h1, h2⟩ := (h r (List.mem_cons_self ..)).len ws.flatten
    rw [List.flatten_cons]
    refine (cut_cons (by simp; omega) (by rw [h1]; simp) _).2 ⟨ws, ?_, ?_⟩
    · rw [h1]; simp
    · rw [h1]; simpa using ih
/-- The slices xs are pieces of the bytes l, which lie in the block b: the texts zs. -/
def Subs (b : Nat) (l : List UInt8) (xs : List Value) (zs : List (List UInt8)) : Prop :=
  xs.length = zs.length ∧ ∀ (j : Nat) (z : List UInt8), zs[j]? = some z → ∃ f n c, xs[j]? = some (.slice (some ⟨b, f, none⟩) n c) ∧ z.length = n ∧ z = (l.drop f).take n
theorem Subs.nil (b : Nat) (l : List UInt8) : Subs b l [] [] := ⟨rfl, fun j z h => by simp at h⟩
theorem Subs.snoc {b : Nat} {l : List UInt8} {xs : List Value} {zs : List (List UInt8)} (h : Subs b l xs zs) (f n c : Nat) (hn : f + n ≤ l.length) : Subs b l (xs ++ [.slice (some ⟨b, f, none⟩) n c]) (zs ++ [(l.drop f).take n]) := by
  refine ⟨by simp [h.1], fun j z hj => ?_⟩
  rw [List.getElem?_append] at hj
  split at hj
  · rename_i hlt
    obtain ⟨f', n', c', h1, h2, h3⟩ := h.2 j z hj
    exact ⟨f', n', c', by rw [List.getElem?_append_left (by rw [h.1]; exact hlt)]; exact h1, h2, h3⟩
  · rename_i hge
    have hj0 : j - zs.length = 0 := by
      have := (List.getElem?_eq_some_iff.1 hj).1
      simp at this
      omega
    rw [hj0] at hj
    simp at hj
    subst hj
    refine ⟨f, n, c, ?_, by simp; omega, rfl⟩
    rw [List.getElem?_append_right (by rw [h.1]; omega), h.1, hj0]
    rfl
theorem Rd.piece {w : World} {b : Nat} {l : List UInt8} (h : Rd w (some ⟨b, 0, none⟩) (vs l)) (f n : Nat) : Rd w (some ⟨b, f, none⟩) (vs ((l.drop f).take n)) := by
  have h1 := (h.drop f).take n
  rw [← vs_drop, ← vs_take] at h1
  simpa [add_lit] using h1
theorem Hi.some_ {base c c' h : Nat} {A A' : Option Addr} (hA : ∃ a, A = some ⟨a, 0, none⟩ ∧ base ≤ a) (hor : (A' = A ∧ c' = c) ∨ A' = some ⟨h, 0, none⟩) (hB : base ≤ h) : ∃ a, A' = some ⟨a, 0, none⟩ ∧ base ≤ a := by
  rcases hor with ⟨rfl, _⟩ | rfl
  · exact hA
  · exact ⟨h, rfl, hB⟩
end Go.Cv
