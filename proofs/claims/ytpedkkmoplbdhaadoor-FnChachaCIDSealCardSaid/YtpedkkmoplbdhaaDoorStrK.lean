/- What a reader of bytes holds, and what a call may have turned: no program text. -/
import Derived.Test.YtpedkkmoplbdhaaDoorOps4
namespace Go.Cv
open Go.RowKit
set_option linter.unusedVariables false
/-- Of the rows that were there, only those of L may be others. -/
structure Tch (L : List Nat) (w w' : World) : Prop where
  os : w'.os = w.os
  tape : w'.tape = w.tape
  output : w'.output = w.output
  size : w.heap.size ≤ w'.heap.size
  block : ∀ k, k < w.heap.size → k ∉ L → w'.heap[k]? = w.heap[k]?
theorem Tch.refl (L : List Nat) (w : World) : Tch L w w := ⟨rfl, rfl, rfl, Nat.le_refl _, fun _ _ _ => rfl⟩
theorem Tch.trans {L : List Nat} {w w1 w2 : World} (h1 : Tch L w w1) (h2 : Tch L w1 w2) : Tch L w w2 :=
  ⟨h2.os.trans h1.os, h2.tape.trans h1.tape, h2.output.trans h1.output, Nat.le_trans h1.size h2.size,
    fun k hk hn => (h2.block k (Nat.lt_of_lt_of_le hk h1.size) hn).trans (h1.block k hk hn)⟩
theorem Tch.more {L M : List Nat} {w w' : World} (h : Tch L w w') (hs : ∀ k ∈ L, k ∈ M ∨ w.heap.size ≤ k) : Tch M w w' :=
  ⟨h.os, h.tape, h.output, h.size, fun k hk hn => h.block k hk (fun hm => by rcases hs k hm with h' | h' <;> first | exact hn h' | omega)⟩
/-- The second step turns rows that the first one made, or some of M. -/
theorem Tch.then {L M : List Nat} {w w1 w2 : World} (h1 : Tch M w w1) (h2 : Tch L w1 w2) (hs : ∀ k ∈ L, k ∈ M ∨ w.heap.size ≤ k) : Tch M w w2 :=
  ⟨h2.os.trans h1.os, h2.tape.trans h1.tape, h2.output.trans h1.output, Nat.le_trans h1.size h2.size,
    fun k hk hn => (h2.block k (Nat.lt_of_lt_of_le hk h1.size) (fun hm => by rcases hs k hm with h' | h' <;> first | exact hn h' | omega)).trans (h1.block k hk hn)⟩
theorem Tch.below {w w' : World} (h : Below w.heap.size w w') (L : List Nat) : Tch L w w' := ⟨h.os, h.tape, h.output, h.size, fun k hk _ => h.block k hk⟩
theorem Tch.toBelow {w w' : World} {B : Nat} (h : Tch [] w w') (hB : B ≤ w.heap.size) : Below B w w' := ⟨h.os, h.tape, h.output, h.size, fun k hk => h.block k (by omega) (by simp)⟩
theorem Tch.grown {w w' : World} {row : Option Nat} (h : w.grownBy w' row) : Tch row.toList w w' := ⟨h.os, h.tape, h.output, h.size, fun k hk hn => h.block k hk (fun e => hn (by rw [← e]; simp))⟩
theorem Tch.toGrown {w w' : World} {g : Nat} (h : Tch [g] w w') : w.grownBy w' (some g) := ⟨h.os, h.tape, h.output, h.size, fun k hk hn => h.block k hk (by simpa using hn)⟩
theorem Tch.set (w : World) (g i : Nat) (u : Value) : Tch [g] w (w.setCell ⟨g, i, none⟩ u) := Tch.grown (grown_set w g i u)
theorem Tch.alloc (w : World) (o : Obj) : Tch [] w (w.alloc o) := Tch.below (below_alloc w o) []
theorem Tch.drew (w : World) : Tch [] w w.drew := Tch.below (below_drew w) []
theorem Blk.tch {w w' : World} {L : List Nat} {g : Nat} {t : TypeId} {cs : Array Value} (h : Blk w g t cs) (ht : Tch L w w') (hn : g ∉ L) : Blk w' g t cs := (ht.block g h.lt hn).trans h
theorem cell_of_heap {w w' : World} {a : Addr} (h : w'.heap[a.block]? = w.heap[a.block]?) : w'.cell? a = w.cell? a := by
  simp only [World.cell?, h]
theorem Tch.cell {w w' : World} {L : List Nat} {a : Addr} {v : Value} (ht : Tch L w w') (h : w.cell? a = some v) (hn : a.block ∉ L) : w'.cell? a = some v := by
  rw [cell_of_heap (ht.block a.block (block_lt h) hn)]; exact h
theorem Rd.tch {w w' : World} {L : List Nat} {b o : Nat} {xs : List Value} (h : Rd w (some ⟨b, o, none⟩) xs) (ht : Tch L w w') (hn : b ∉ L) : Rd w' (some ⟨b, o, none⟩) xs := by
  rcases h with h | ⟨b', o', hA, h⟩
  · exact .inl h
  · injection hA with hA
    injection hA with hb' ho'
    subst hb' ho'
    exact .inr ⟨b, o, rfl, fun j v hj => ht.cell (h j v hj) hn⟩
/-- The variable at p holds the bytes l, which lie in the row b. -/
def Str (w : World) (t p b : Nat) (l : List UInt8) : Prop :=
  ∃ o c, Blk w p t #[.slice (some ⟨b, o, none⟩) l.length c] ∧ l.length ≤ c ∧ Rd w (some ⟨b, o, none⟩) (vs l)
theorem Str.tch {w w' : World} {L : List Nat} {t p b : Nat} {l : List UInt8} (h : Str w t p b l) (ht : Tch L w w') (hp : p ∉ L) (hb : b ∉ L) : Str w' t p b l := by
  obtain ⟨o, c, h1, h2, h3⟩ := h
  exact ⟨o, c, h1.tch ht hp, h2, h3.tch ht hb⟩
theorem Str.lt {w : World} {t p b : Nat} {l : List UInt8} (h : Str w t p b l) : p < w.heap.size := by obtain ⟨o, c, h1, _⟩ := h; exact h1.lt
theorem Str.start {w : World} {t b o c : Nat} {l : List UInt8} (hr : Rd w (some ⟨b, o, none⟩) (vs l)) (hc : l.length ≤ c) (hb : b < w.heap.size) : Str (w.alloc (.cells #[.slice (some ⟨b, o, none⟩) l.length c] t)) t w.heap.size b l :=
  ⟨o, c, Blk.new _ _ _, hc, hr.tch (Tch.alloc _ _) (by simp)⟩
theorem Str.alloc {w : World} {t p b : Nat} {l : List UInt8} (h : Str w t p b l) (o : Obj) : Str (w.alloc o) t p b l := h.tch (Tch.alloc _ _) (by simp) (by simp)
theorem Str.cell {w : World} {t p b : Nat} {l : List UInt8} (h : Str w t p b l) : ∃ o c, w.cell? ⟨p, 0, none⟩ = some (.slice (some ⟨b, o, none⟩) l.length c) ∧ l.length ≤ c ∧ Rd w (some ⟨b, o, none⟩) (vs l) := by
  obtain ⟨o, c, hk, hc, hr⟩ := h
  have k0 := hk.cell 0
  exact ⟨o, c, by simpa using k0, hc, hr⟩
end Go.Cv
