/- Rows that are kept as they were; what a builder of bytes needs: no program text. -/
import Derived.Test.YtohankdfnjogfaaDoorOps6
import Derived.Test.YtohankdfnjogfaaDoorElems
namespace Go.Cv
open Go.RowKit
set_option linter.unusedVariables false
/-- Of the rows that were there, those of P are as they were. -/
structure Kp (P : Nat → Prop) (w w' : World) : Prop where
  os : w'.os = w.os
  tape : w'.tape = w.tape
  output : w'.output = w.output
  size : w.heap.size ≤ w'.heap.size
  block : ∀ k, k < w.heap.size → P k → w'.heap[k]? = w.heap[k]?
theorem Kp.refl (P : Nat → Prop) (w : World) : Kp P w w := ⟨rfl, rfl, rfl, Nat.le_refl _, fun _ _ _ => rfl⟩
theorem Kp.trans {P : Nat → Prop} {w w1 w2 : World} (h1 : Kp P w w1) (h2 : Kp P w1 w2) : Kp P w w2 :=
  ⟨h2.os.trans h1.os, h2.tape.trans h1.tape, h2.output.trans h1.output, Nat.le_trans h1.size h2.size, fun k hk hp => (h2.block k (Nat.lt_of_lt_of_le hk h1.size) hp).trans (h1.block k hk hp)⟩
theorem Kp.less {P Q : Nat → Prop} {w w' : World} (h : Kp P w w') (hs : ∀ k, k < w.heap.size → Q k → P k) : Kp Q w w' := ⟨h.os, h.tape, h.output, h.size, fun k hk hq => h.block k hk (hs k hk hq)⟩
theorem Kp.below {P : Nat → Prop} {w w' : World} (h : Below w.heap.size w w') : Kp P w w' := ⟨h.os, h.tape, h.output, h.size, fun k hk _ => h.block k hk⟩
theorem Kp.toBelow {P : Nat → Prop} {w w' : World} {B : Nat} (h : Kp P w w') (hB : B ≤ w.heap.size) (hP : ∀ k, k < B → P k) : Below B w w' := ⟨h.os, h.tape, h.output, h.size, fun k hk => h.block k (Nat.lt_of_lt_of_le hk hB) (hP k hk)⟩
theorem Kp.tch {P : Nat → Prop} {w w' : World} {L : List Nat} (h : Tch L w w') (hL : ∀ k ∈ L, ¬ P k) : Kp P w w' := ⟨h.os, h.tape, h.output, h.size, fun k hk hp => h.block k hk (fun hm => hL k hm hp)⟩
theorem Kp.alloc (P : Nat → Prop) (w : World) (o : Obj) : Kp P w (w.alloc o) := Kp.below (below_alloc w o)
theorem Kp.grown {P : Nat → Prop} {w w' : World} {row : Option Nat} (h : w.grownBy w' row) (hr : ∀ k, row = some k → ¬ P k) : Kp P w w' := ⟨h.os, h.tape, h.output, h.size, fun k hk hp => h.block k hk (fun e => hr k e.symm hp)⟩
theorem Kp.set (P : Nat → Prop) (w : World) (g i : Nat) (u : Value) (hg : ¬ P g) : Kp P w (w.setCell ⟨g, i, none⟩ u) := Kp.grown (grown_set w g i u) (fun k hk => by injection hk with hk; subst hk; exact hg)
theorem Blk.kp {P : Nat → Prop} {w w' : World} {g : Nat} {t : TypeId} {cs : Array Value} (h : Blk w g t cs) (hk : Kp P w w') (hp : P g) : Blk w' g t cs := (hk.block g h.lt hp).trans h
theorem Kp.cell {P : Nat → Prop} {w w' : World} {a : Addr} {v : Value} (hk : Kp P w w') (h : w.cell? a = some v) (hp : P a.block) : w'.cell? a = some v := by
  rw [cell_of_heap (hk.block a.block (block_lt h) hp)]; exact h
theorem Kp.frozen {P : Nat → Prop} {w w' : World} {a : Addr} (hk : Kp P w w') (h : w.frozen? a = false) (hlt : a.block < w.heap.size) (hp : P a.block) : w'.frozen? a = false := by
  have hh := hk.block a.block hlt hp
  simp only [World.frozen?, hh] at h ⊢
  exact h
theorem Rd.kp {P : Nat → Prop} {w w' : World} {b o : Nat} {xs : List Value} (h : Rd w (some ⟨b, o, none⟩) xs) (hk : Kp P w w') (hp : P b) : Rd w' (some ⟨b, o, none⟩) xs := by
  rcases h with h | ⟨b', o', hA, h⟩
  · exact .inl h
  · injection hA with hA
    injection hA with hb' ho'
    subst hb' ho'
    exact .inr ⟨b, o, rfl, fun j v hj => hk.cell (h j v hj) hp⟩
/-- A row that is none of P's, nor p's own. -/
def Away (P : Nat → Prop) (p : Nat) (A : Option Addr) (w : World) : Prop := A = none ∨ ∃ a, A = some ⟨a, 0, none⟩ ∧ ¬ P a ∧ a ≠ p ∧ a < w.heap.size
theorem Away.more {P : Nat → Prop} {p : Nat} {A : Option Addr} {w w' : World} (h : Away P p A w) (hs : w.heap.size ≤ w'.heap.size) : Away P p A w' := by
  rcases h with h | ⟨a, h1, h2, h3, h4⟩
  · exact .inl h
  · exact .inr ⟨a, h1, h2, h3, Nat.lt_of_lt_of_le h4 hs⟩
theorem Away.notP {P : Nat → Prop} {p : Nat} {A : Option Addr} {w : World} (h : Away P p A w) : ∀ k, A.map (·.block) = some k → ¬ P k ∧ k ≠ p := by
  intro k hk
  rcases h with rfl | ⟨a, rfl, h2, h3, _⟩
  · simp at hk
  · simp at hk; subst hk; exact ⟨h2, h3⟩
theorem Away.new {P : Nat → Prop} {p c c' : Nat} {A A' : Option Addr} {w w' : World} (h : Away P p A w) (hP : ∀ k, P k → k < w.heap.size) (hp : p < w.heap.size) (hor : (A' = A ∧ c' = c) ∨ A' = some ⟨w.heap.size, 0, none⟩) (hs : w.heap.size ≤ w'.heap.size) (hown : A' = some ⟨w.heap.size, 0, none⟩ → w.heap.size < w'.heap.size) : Away P p A' w' := by
  rcases hor with ⟨rfl, _⟩ | rfl
  · exact h.more hs
  · exact .inr ⟨_, rfl, fun hk => Nat.lt_irrefl _ (hP _ hk), fun e => by omega, hown rfl⟩
theorem Own.kp {P : Nat → Prop} {w w' : World} {B sz n c : Nat} {A : Option Addr} {xs : List Value} (h : Own w B sz A n c xs) (hk : Kp P w w') (hA : ∀ k, A.map (·.block) = some k → P k) : Own w' B sz A n c xs :=
  h.mono fun a ha hlt => by
    have hh := hk.block a.block hlt (hA _ ha)
    exact ⟨cell_of_heap hh, by simp only [World.frozen?, hh]⟩
/-- A row that holds something, or room for it, is there. -/
theorem Own.there {w : World} {B n c : Nat} {a o : Nat} {xs : List Value} (h : Own w B 1 (some ⟨a, o, none⟩) n c xs) (hn : 0 < n) : a < w.heap.size := by
  obtain ⟨h1, h2, _, h0 | ⟨b, o', hA, _, _, hs, _⟩⟩ := h
  · omega
  · injection hA with hA
    injection hA with hb ho
    subst hb ho
    obtain ⟨u, hu⟩ := Option.isSome_iff_exists.1 (hs 0 (by omega))
    exact block_lt hu
theorem set_mid (pre mid suf : List Value) (i : Nat) (v : Value) (hi : i < mid.length) : (pre ++ (mid ++ suf)).set (pre.length + i) v = pre ++ (mid.set i v ++ suf) := by
  rw [List.set_append_right _ _ (Nat.le_add_right _ _), Nat.add_sub_cancel_left, List.set_append_left _ _ hi]
end Go.Cv
