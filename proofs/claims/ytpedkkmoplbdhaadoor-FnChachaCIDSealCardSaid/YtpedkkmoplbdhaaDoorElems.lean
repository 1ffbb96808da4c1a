/- Rows of byte slices, each in a row of its own: no program text. -/
import Derived.Test.YtpedkkmoplbdhaaDoorOps6
namespace Go.Cv
open Go.RowKit
set_option linter.unusedVariables false
/-- The cells are byte slices, each at the head of a row of its own from base on, none of them in the row A. -/
def Elems (base : Nat) (A : Option Addr) (w : World) (xs : List Value) : Prop :=
  ∀ v ∈ xs, ∃ eb n c l, v = .slice (some ⟨eb, 0, none⟩) n c ∧ List.length l = n ∧ base ≤ eb ∧ eb < w.heap.size ∧ A.map (·.block) ≠ some eb ∧ Rd w (some ⟨eb, 0, none⟩) (vs l)
theorem Elems.nil (base : Nat) (A : Option Addr) (w : World) : Elems base A w [] := fun v h => by simp at h
theorem Elems.step {base : Nat} {A : Option Addr} {w w' : World} {L : List Nat} {xs : List Value} (h : Elems base A w xs) (ht : Tch L w w') (hL : ∀ k ∈ L, k < base ∨ A.map (·.block) = some k) : Elems base A w' xs := fun v hv => by
  obtain ⟨eb, n, c, l, h1, h2, h3, h4, h5, h6⟩ := h v hv
  have hn : eb ∉ L := fun hm => by
    rcases hL eb hm with h | h
    · omega
    · exact h5 h
  exact ⟨eb, n, c, l, h1, h2, h3, Nat.lt_of_lt_of_le h4 ht.size, h5, h6.tch ht hn⟩
/-- The row is another one now, one that came after all elements. -/
theorem Elems.moved {base : Nat} {A A' : Option Addr} {w : World} {xs : List Value} (h : Elems base A w xs) (hA : A' = A ∨ ∃ b, A' = some ⟨b, 0, none⟩ ∧ w.heap.size ≤ b) : Elems base A' w xs := fun v hv => by
  obtain ⟨eb, n, c, l, h1, h2, h3, h4, h5, h6⟩ := h v hv
  refine ⟨eb, n, c, l, h1, h2, h3, h4, ?_, h6⟩
  rcases hA with rfl | ⟨b, rfl, hb⟩
  · exact h5
  · simp; omega
theorem Elems.append {base c c' : Nat} {A A' : Option Addr} {w w' : World} {xs : List Value} (h : Elems base A w xs) (hg : w.grownBy w' (A.map (·.block))) (hA : (A' = A ∧ c' = c) ∨ A' = some ⟨w.heap.size, 0, none⟩) : Elems base A' w' xs := fun v hv => by
  obtain ⟨eb, n, c, l, h1, h2, h3, h4, h5, h6⟩ := h v hv
  have hn : eb ∉ (A.map (·.block)).toList := fun hm => by
    rw [Option.mem_toList] at hm
    exact h5 hm
  refine ⟨eb, n, c, l, h1, h2, h3, Nat.lt_of_lt_of_le h4 hg.size, ?_, h6.tch (Tch.grown hg) hn⟩
  rcases hA with ⟨rfl, _⟩ | rfl
  · exact h5
  · simp; omega
theorem Own.drew {w : World} {B sz n c : Nat} {A : Option Addr} {xs : List Value} (h : Own w B sz A n c xs) : Own w.drew B sz A n c xs := h
theorem grown_undrew {w w' : World} {r : Option Nat} (h : w.drew.grownBy w' r) : w.grownBy w' r := ⟨h.os, h.tape, h.output, h.size, h.block⟩
/-- The row lies in the heap. -/
def Lo (A : Option Addr) (w : World) : Prop := ∀ a, A.map (·.block) = some a → a < w.heap.size
theorem Lo.none (w : World) : Lo none w := fun a h => by simp at h
theorem Lo.ne {A : Option Addr} {w : World} {a : Nat} (h : Lo A w) (ha : w.heap.size ≤ a) : A.map (·.block) ≠ some a := fun e => by have := h a e; omega
theorem Own.lo {w : World} {B n c : Nat} {A : Option Addr} {xs : List Value} (h : Own w B 1 A n c xs) (hn : 0 < n) : Lo A w := fun a ha => by
  obtain ⟨h1, h2, _, h0 | ⟨b, o, rfl, _, _, hs, _⟩⟩ := h
  · omega
  · simp at ha
    subst ha
    obtain ⟨u, hu⟩ := Option.isSome_iff_exists.1 (hs 0 (by omega))
    exact block_lt hu
theorem Lo.mono {A : Option Addr} {w w' : World} (h : Lo A w) (hs : w.heap.size ≤ w'.heap.size) : Lo A w' := fun a ha => Nat.lt_of_lt_of_le (h a ha) hs
theorem Elems.snoc {base : Nat} {A : Option Addr} {w : World} {xs : List Value} (h : Elems base A w xs) {eb n c : Nat} {l : List UInt8} (h2 : l.length = n) (h3 : base ≤ eb) (h4 : eb < w.heap.size) (h5 : A.map (·.block) ≠ some eb) (h6 : Rd w (some ⟨eb, 0, none⟩) (vs l)) :
    Elems base A w (xs ++ [.slice (some ⟨eb, 0, none⟩) n c]) := fun v hv => by
  rcases List.mem_append.1 hv with hv | hv
  · exact h v hv
  · simp at hv
    exact ⟨eb, n, c, l, hv, h2, h3, h4, h5, h6⟩
/-- Texts, each with its length in three bytes ahead. -/
theorem Elems.at_ {base : Nat} {A : Option Addr} {w : World} {xs : List Value} (h : Elems base A w xs) (j : Nat) (hj : j < xs.length) : ∃ eb n c l, xs[j]? = some (.slice (some ⟨eb, 0, none⟩) n c) ∧ List.length l = n ∧ base ≤ eb ∧ Rd w (some ⟨eb, 0, none⟩) (vs l) := by
  obtain ⟨eb, n, c, l, h1, h2, h3, _, _, h6⟩ := h _ (List.getElem_mem hj)
  exact ⟨eb, n, c, l, by rw [List.getElem?_eq_getElem hj, h1], h2, h3, h6⟩
end Go.Cv
