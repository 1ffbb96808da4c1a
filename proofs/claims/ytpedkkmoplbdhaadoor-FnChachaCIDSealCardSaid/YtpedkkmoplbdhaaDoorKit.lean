/- Words of our own for rows of memory, byte slices and strings: no program text. -/
import Derived.WalkKit
import Derived.WalkLawsBesides
import Derived.WalkSpells
import Derived.Lib.Hide
import Derived.Laws.IdiomStrings
import Derived.Laws.IdiomCopy
import Derived.Laws.BytesArg
import Derived.Deep.Draws
import Derived.Deep.QuietTactic
import Derived.BigQuiet
import Derived.Maps.AppendAt
import Derived.Laws.CopyOwn
import Derived.KernelRfl
namespace Go.Cv
open Go.RowKit

/-- A goal at which the walk stands still. -/
def Held (p : Prop) : Prop := p
theorem Held.on {p : Prop} (h : Held p) : p := h

/-! ### strings as lists -/
/-- A string as a list of bytes. -/
def S (l : List UInt8) : ByteArray := ⟨l.toArray⟩
theorem S_size (l : List UInt8) : (S l).size = l.length := by simp [S, ByteArray.size]
theorem S_data (l : List UInt8) : (S l).data.toList = l := rfl
theorem S_of (s : ByteArray) : ∃ l, s = S l := ⟨s.data.toList, by cases s; rfl⟩
theorem S_inj {l k : List UInt8} (h : S l = S k) : l = k := by
  have := congrArg (fun s : ByteArray => s.data.toList) h
  simpa [S] using this
theorem toList_eq (b : ByteArray) : b.toList = b.data.toList := by
  have key : ∀ n i r, b.size - i = n → ByteArray.toList.loop b i r = r.reverse ++ b.data.toList.drop i := by
    intro n
    induction n with
    | zero =>
      intro i r h
      unfold ByteArray.toList.loop
      have hlt : ¬ i < b.size := by omega
      rw [if_neg hlt]
      have : b.data.toList.length = b.size := Array.length_toList
      rw [List.drop_eq_nil_of_le (by omega), List.append_nil]
    | succ n ih =>
      intro i r h
      unfold ByteArray.toList.loop
      have hlt : i < b.size := by omega
      rw [if_pos hlt, ih (i + 1) _ (by omega)]
      have hl : i < b.data.toList.length := by rw [Array.length_toList]; exact hlt
      rw [List.drop_eq_getElem_cons hl]
      have : b.get! i = b.data.toList[i] := by
        simp [ByteArray.get!]
        rw [getElem!_pos b.data i (by simpa using hl)]
      rw [this]
      simp
  unfold ByteArray.toList
  rw [key b.size 0 [] (by omega)]
  simp
theorem S_toList (l : List UInt8) : (S l).toList = l := by rw [toList_eq]; rfl
theorem S_append (l k : List UInt8) : S l ++ S k = S (l ++ k) := by
  have h : (S l ++ S k).data = (S (l ++ k)).data := by
    rw [ByteArray.data_append]; simp [S]
  cases hh : (S l ++ S k) with
  | mk d =>
    rw [hh] at h
    simp only [S] at h ⊢
    rw [h]

/-! ### rows that are read -/
/-- The address leads to the cells xs. -/
def Rd (w : World) (A : Option Addr) (xs : List Value) : Prop :=
  xs = [] ∨ ∃ b o, A = some ⟨b, o, none⟩ ∧ ∀ (j : Nat) (v : Value), xs[j]? = some v → w.cell? ⟨b, o + j, none⟩ = some v

theorem block_lt {w : World} {a : Addr} {v : Value} (h : w.cell? a = some v) : a.block < w.heap.size := World.block_lt_of_cell? w a h
theorem add_lit (b o j : Nat) : (⟨b, o, none⟩ : Addr).add j = ⟨b, o + j, none⟩ := by unfold Addr.add; split <;> simp_all

theorem Rd.nil (w : World) (A : Option Addr) : Rd w A [] := .inl rfl
theorem Rd.mono {w w' : World} {A : Option Addr} {xs : List Value} (h : Rd w A xs) (hb : ∀ a v, w.cell? a = some v → w'.cell? a = some v) : Rd w' A xs := by
  rcases h with h | ⟨b, o, hA, hc⟩
  · exact .inl h
  · exact .inr ⟨b, o, hA, fun j v hj => hb _ _ (hc j v hj)⟩
theorem keep_of_below {w w' : World} (hb : Below w.heap.size w w') : ∀ a v, w.cell? a = some v → w'.cell? a = some v :=
  fun a _ h => (hb.cell (p := a) (block_lt h)).trans h
theorem Rd.keep {w w' : World} {A : Option Addr} {xs : List Value} (h : Rd w A xs) (hb : Below w.heap.size w w') : Rd w' A xs := h.mono (keep_of_below hb)
theorem Rd.drop {w : World} {A : Option Addr} {xs : List Value} (h : Rd w A xs) (k : Nat) : Rd w (A.map (·.add k)) (xs.drop k) := by
  rcases h with h | ⟨b, o, rfl, hc⟩
  · subst h; exact .inl (by simp)
  · refine .inr ⟨b, o + k, by simp [add_lit], fun j v hj => ?_⟩
    rw [List.getElem?_drop] at hj
    have := hc _ _ hj
    rwa [← Nat.add_assoc] at this
theorem Rd.take {w : World} {A : Option Addr} {xs : List Value} (h : Rd w A xs) (k : Nat) : Rd w A (xs.take k) := by
  rcases h with h | ⟨b, o, rfl, hc⟩
  · subst h; exact .inl (by simp)
  · refine .inr ⟨b, o, rfl, fun j v hj => hc j v ?_⟩
    rw [List.getElem?_take] at hj
    split at hj
    · exact hj
    · cases hj
theorem Rd.of_empty {w : World} {A : Option Addr} {xs : List Value} (h : xs = []) : Rd w A xs := .inl h
/-- The cells, loaded one behind the other. -/
theorem Rd.load {P : Program} {w : World} {A : Option Addr} {xs : List Value} (h : Rd w A xs) (size n len cap : Nat) (hl : xs.length = n * size) (hs : 0 < size) :
    (Builtin.firstCells size n (.slice A len cap)).run P w = .ok xs.toArray w := by
  rcases h with h | ⟨b, o, rfl, hc⟩
  · subst h
    have hn : n = 0 := by
      rcases Nat.eq_zero_or_pos n with h0 | h0
      · exact h0
      · have := Nat.mul_pos h0 hs
        simp at hl; omega
    subst hn
    cases A with
    | none => simp [Builtin.firstCells]
    | some a =>
      simp only [Builtin.firstCells, Nat.zero_mul]
      exact run_loadCells_list w a [] (by simp)
  · exact run_firstCells_some w size n ⟨b, o, none⟩ len cap xs hl fun j v hj => by rw [add_lit]; exact hc j v hj

/-- The cells of bytes. -/
def vs (l : List UInt8) : List Value := l.map fun b => Value.int .u8 b.toNat
theorem vs_length (l : List UInt8) : (vs l).length = l.length := by simp [vs]
theorem vs_nil : vs [] = [] := rfl
theorem vs_append (l k : List UInt8) : vs (l ++ k) = vs l ++ vs k := by simp [vs]
theorem vs_drop (l : List UInt8) (k : Nat) : vs (l.drop k) = (vs l).drop k := by simp [vs, List.map_drop]
theorem vs_take (l : List UInt8) (k : Nat) : vs (l.take k) = (vs l).take k := by simp [vs, List.map_take]
theorem vs_get (l : List UInt8) (j : Nat) (h : j < l.length) : (vs l)[j]? = some (.int .u8 (l.getD j 0).toNat) := by
  simp [vs, List.getD, h]
theorem vs_one (l : List UInt8) : ∀ u ∈ vs l, u.oneCell' = true := by
  intro u hu
  simp only [vs, List.mem_map] at hu
  obtain ⟨b, _, rfl⟩ := hu
  rfl
/-- A byte of a row. -/
theorem Rd.byte {w : World} {b o : Nat} {l : List UInt8} (h : Rd w (some ⟨b, o, none⟩) (vs l)) (j : Nat) (hj : j < l.length) : w.cell? ⟨b, o + j, none⟩ = some (.int .u8 (l.getD j 0).toNat) := by
  rcases h with h | ⟨b', o', hA, hc⟩
  · have := congrArg List.length h
    rw [vs_length] at this
    simp at this; subst this; simp at hj
  · injection hA with hA; injection hA with h1 h2; subst h1 h2
    exact hc j _ (vs_get l j hj)
theorem Rd.addr {w : World} {A : Option Addr} {l : List UInt8} (h : Rd w A (vs l)) (hl : l ≠ []) : ∃ b o, A = some ⟨b, o, none⟩ := by
  rcases h with h | ⟨b, o, hA, _⟩
  · exact absurd (by simpa [vs] using h) hl
  · exact ⟨b, o, hA⟩

/-! ### rows of the call's own -/
/-- The slice value '.slice A n c' (elements of sz cells) owns a row in a block from B on: its n elements are the cells xs, all c places are there and may be written. -/
def Own (w : World) (B sz : Nat) (A : Option Addr) (n c : Nat) (xs : List Value) : Prop :=
  xs.length = n * sz ∧ n ≤ c ∧ c ≤ maxLen ∧ (c = 0 ∨ ∃ b o, A = some ⟨b, o, none⟩ ∧ B ≤ b ∧
    (∀ (j : Nat) (v : Value), xs[j]? = some v → w.cell? ⟨b, o + j, none⟩ = some v) ∧
    (∀ j, j < c * sz → (w.cell? ⟨b, o + j, none⟩).isSome = true) ∧ (∀ j, j < c * sz → w.frozen? ⟨b, o + j, none⟩ = false))

theorem Own.rd {w : World} {B sz n c : Nat} {A : Option Addr} {xs : List Value} (h : Own w B sz A n c xs) : Rd w A xs := by
  obtain ⟨h1, h2, _, h0 | ⟨b, o, hA, _, hc, _⟩⟩ := h
  · refine .inl (List.eq_nil_of_length_eq_zero ?_)
    have : n = 0 := by omega
    subst this
    simpa using h1
  · exact .inr ⟨b, o, hA, hc⟩
theorem Own.empty (w : World) (B sz : Nat) (A : Option Addr) : Own w B sz A 0 0 [] := ⟨by simp, Nat.le_refl _, by simp [maxLen], .inl rfl⟩
theorem Own.nil (w : World) (B sz : Nat) : Own w B sz none 0 0 [] := Own.empty w B sz none
/-- Cells of rows from B on are as they were. -/
theorem Own.mono {w w' : World} {B sz n c : Nat} {A : Option Addr} {xs : List Value} (h : Own w B sz A n c xs)
    (hb : ∀ a : Addr, A.map (·.block) = some a.block → a.block < w.heap.size → w'.cell? a = w.cell? a ∧ w'.frozen? a = w.frozen? a) : Own w' B sz A n c xs := by
  obtain ⟨h1, h2, h3, h0 | ⟨b, o, rfl, hB, hc, hs, hf⟩⟩ := h
  · exact ⟨h1, h2, h3, .inl h0⟩
  · have hlt : ∀ j, j < c * sz → b < w.heap.size := fun j hj => by
      obtain ⟨u, hu⟩ := Option.isSome_iff_exists.1 (hs j hj)
      exact block_lt hu
    refine ⟨h1, h2, h3, .inr ⟨b, o, rfl, hB, fun j v hj => ?_, fun j hj => ?_, fun j hj => ?_⟩⟩
    · have hcell := hc j v hj
      rw [(hb ⟨b, o + j, none⟩ rfl (block_lt hcell)).1]; exact hcell
    · rw [(hb ⟨b, o + j, none⟩ rfl (hlt j hj)).1]; exact hs j hj
    · rw [(hb ⟨b, o + j, none⟩ rfl (hlt j hj)).2]; exact hf j hj
theorem Own.keep {w w' : World} {B sz n c : Nat} {A : Option Addr} {xs : List Value} (h : Own w B sz A n c xs) (hb : Below w.heap.size w w') : Own w' B sz A n c xs :=
  h.mono fun _ _ hlt => ⟨hb.cell hlt, hb.frozen hlt⟩
/-- Another row was written. -/
theorem Own.grown {w w' : World} {B sz n c : Nat} {A : Option Addr} {xs : List Value} {row : Option Nat} (h : Own w B sz A n c xs) (hg : w.grownBy w' row) (hne : A.map (·.block) ≠ row ∨ A = none) : Own w' B sz A n c xs :=
  h.mono fun a ha hlt => by
    have hn : some a.block ≠ row := by
      rcases hne with hne | rfl
      · rw [← ha]; exact hne
      · simp at ha
    exact ⟨World.cell?_of_block (hg.block _ hlt hn), World.frozen?_of_block (hg.block _ hlt hn)⟩
theorem Own.lower {w : World} {B B' sz n c : Nat} {A : Option Addr} {xs : List Value} (h : Own w B sz A n c xs) (hB : B' ≤ B) : Own w B' sz A n c xs := by
  obtain ⟨h1, h2, h3, h0 | ⟨b, o, hA, hb, r⟩⟩ := h
  · exact ⟨h1, h2, h3, .inl h0⟩
  · exact ⟨h1, h2, h3, .inr ⟨b, o, hA, Nat.le_trans hB hb, r⟩⟩
/-- A new row. -/
theorem Own.new (w : World) (B sz e : Nat) (fz : Nat × Nat) (cur : Array Value) (n c : Nat) (xs : List Value) (hl : xs.length = n * sz) (hnc : n ≤ c) (hc : c ≤ maxLen) (hs : cur.size = c * sz)
    (hB : B ≤ w.heap.size) (hf : ∀ j, j < c * sz → ¬ (fz.1 ≤ j ∧ j < fz.2)) (hx : ∀ (j : Nat) (v : Value), xs[j]? = some v → cur[j]? = some v) :
    Own (w.alloc (.cells cur e fz)) B sz (some ⟨w.heap.size, 0, none⟩) n c xs := by
  have hg : (w.alloc (.cells cur e fz)).heap[w.heap.size]? = some (.cells cur e fz) := heap_alloc_new w _
  refine ⟨hl, hnc, hc, .inr ⟨w.heap.size, 0, rfl, hB, fun j v hj => ?_, fun j hj => ?_, fun j hj => ?_⟩⟩
  · rw [cell_of_row _ _ _ cur e fz hg, Nat.zero_add]; exact hx j v hj
  · rw [cell_of_row _ _ _ cur e fz hg, Nat.zero_add]
    simp [hs, hj]
  · have := hf j hj
    simp only [World.frozen?, hg, Nat.zero_add]
    simpa using this

theorem heap_setCells_other (b : Nat) : ∀ (ys : List Value) (o : Nat) (w : World) (k : Nat), k ≠ b → (w.setCells b o ys).heap[k]? = w.heap[k]?
  | [], _, _, _, _ => rfl
  | v :: r, o, w, k, h => by
    rw [World.setCells, heap_setCells_other b r _ _ k h]
    exact Below.heap_setCell w _ v k h
theorem size_setCells (b : Nat) : ∀ (ys : List Value) (o : Nat) (w : World), (w.setCells b o ys).heap.size = w.heap.size
  | [], _, _ => rfl
  | v :: r, o, w => by rw [World.setCells, size_setCells b r]; simp
theorem rest_setCells (b : Nat) : ∀ (ys : List Value) (o : Nat) (w : World), (w.setCells b o ys).os = w.os ∧ (w.setCells b o ys).tape = w.tape ∧ (w.setCells b o ys).output = w.output
  | [], _, _ => ⟨rfl, rfl, rfl⟩
  | v :: r, o, w => by rw [World.setCells]; exact rest_setCells b r _ _
theorem grownBy_setCells (w : World) (b o : Nat) (ys : List Value) : w.grownBy (w.setCells b o ys) (some b) :=
  ⟨(rest_setCells b ys o w).1, (rest_setCells b ys o w).2.1, (rest_setCells b ys o w).2.2, by rw [size_setCells]; exact Nat.le_refl _,
    fun k _ hk => heap_setCells_other b ys o w k (fun e => hk (by rw [e]))⟩

/-! ### append -/
/-- What is appended. -/
def Src (w : World) (sz : Nat) (m : Nat) (x : Value) (ys : List Value) : Prop :=
  ys.length = m * sz ∧ (∀ u ∈ ys, u.oneCell' = true) ∧ ((∃ A c, x = .slice A m c ∧ Rd w A ys) ∨ (∃ l, sz = 1 ∧ x = .string (S l) ∧ ys = vs l))
theorem Src.len {P : Program} {w : World} {sz m : Nat} {x : Value} {ys : List Value} (h : Src w sz m x ys) : (Builtin.lenOf x).run P w = .ok m w := by
  obtain ⟨h1, _, ⟨A, c, rfl, _⟩ | ⟨l, rfl, rfl, rfl⟩⟩ := h
  · rfl
  · rw [vs_length] at h1
    simp [Builtin.lenOf, S_size, h1]
theorem Src.drew {w : World} {sz m : Nat} {x : Value} {ys : List Value} (h : Src w sz m x ys) : Src w.drew sz m x ys := h
theorem Src.cells {P : Program} {w : World} {sz m : Nat} {x : Value} {ys : List Value} (h : Src w sz m x ys) (hs : 0 < sz) : (Builtin.firstCells sz m x).run P w = .ok ys.toArray w := by
  obtain ⟨h1, _, ⟨A, c, rfl, hr⟩ | ⟨l, rfl, rfl, rfl⟩⟩ := h
  · exact hr.load sz m m c h1 hs
  · rw [vs_length] at h1
    have : m = (S l).size := by rw [S_size]; omega
    subst this
    simp [Builtin.firstCells, vs, S, ByteArray.size, Array.extract_eq_self_of_le]

theorem toList_zeroCells_length (z : Array Value) (n : Nat) : (Builtin.zeroCells z n).toList.length = n * z.size := by simp [Builtin.zeroCells]

theorem run_append {P : Program} (w : World) (B : Nat) (t u ty e : TypeId) (i : TypeInfo) (z : Value) (sz by_ : Nat) (ht : P.underlying t = some (.slice e)) (hu : P.underlying u = some (.slice e) ∨ P.underlying u = some .string) (hi : P.info? e = some i) (hz : i.zero = some z)
    (hsize : i.size = sz) (hby : i.bytes = by_) (hzs : z.cells.size = sz) (hsz : 0 < sz)
    (A : Option Addr) (n c : Nat) (xs : List Value) (hown : Own w B sz A n c xs) (x : Value) (m : Nat) (ys : List Value) (hx : Src w sz m x ys)
    (hbytes : (n + m) * by_ ≤ 140737488355328) (h63 : n + m ≤ maxLen) (hB : B ≤ w.heap.size) :
    ∃ A' c' w', (Builtin.append_ #[t, u] ty #[.slice A n c, x]).run P w = .ok (.slice A' (n + m) c') w' ∧ Own w' B sz A' (n + m) c' (xs ++ ys) ∧ w.grownBy w' (A.map (·.block)) ∧
      ((A' = A ∧ c' = c) ∨ A' = some ⟨w.heap.size, 0, none⟩) := by
  subst hsize hby
  have hlen : (xs ++ ys).length = (n + m) * i.size := by rw [List.length_append, hown.1, hx.1, Nat.add_mul]
  have hsmall : n + m ≤ 9223372036854775807 := by simp only [maxLen] at h63; omega
  by_cases hroom : n + m ≤ c
  · have hL := hx.len (P := P)
    have hC := hx.cells (P := P) hsz
    obtain ⟨h1, h2, h3, h0 | ⟨b, o, rfl, hBb, hc, hs, hf⟩⟩ := hown
    · have hn0 : n = 0 := by omega
      have hm0 : m = 0 := by omega
      subst hn0 hm0 h0
      have hxs : xs = [] := List.eq_nil_of_length_eq_zero (by simpa using h1)
      have hys : ys = [] := List.eq_nil_of_length_eq_zero (by simpa using hx.1)
      subst hxs hys
      refine ⟨A, 0, w, ?_, Own.empty w B _ A, World.grownBy.refl w _, .inl ⟨rfl, rfl⟩⟩
      cases A with
      | none => rcases hu with hu | hu <;> simp [Builtin.append_, run_underlying ht, run_underlying hu, sizeOf, typeInfo, hi, hL, hC]
      | some a => rcases hu with hu | hu <;> simp [Builtin.append_, run_underlying ht, run_underlying hu, sizeOf, typeInfo, hi, hL, hC, storeCells]
    · have hlt : n * i.size + m * i.size ≤ c * i.size := by rw [← Nat.add_mul]; exact Nat.mul_le_mul_right _ hroom
      have hst := run_storeCells_cells (P := P) b (o + n * i.size) ys 0 w
        (fun j hj => by rw [hx.1] at hj; rw [Nat.add_zero, Nat.add_assoc]; exact hs _ (by omega))
        (fun j hj => by rw [hx.1] at hj; rw [Nat.add_zero, Nat.add_assoc]; exact hf _ (by omega)) hx.2.1
      rw [Nat.add_zero] at hst
      refine ⟨some ⟨b, o, none⟩, c, w.setCells b (o + n * i.size) ys, ?_, ⟨hlen, hroom, h3, .inr ⟨b, o, rfl, hBb, fun j v hj => ?_, fun j hj => ?_, fun j hj => ?_⟩⟩, grownBy_setCells w b _ ys, .inl ⟨rfl, rfl⟩⟩
      · rcases hu with hu | hu <;> simp [Builtin.append_, run_underlying ht, run_underlying hu, sizeOf, typeInfo, hi, hL, hC, hroom, add_lit, hst]
      · rw [List.getElem?_append] at hj
        split at hj
        · rename_i hjx
          rw [World.cell?_setCells_out b ys _ w _ (fun _ _ => .inl (by simp only; rw [h1] at hjx; omega))]
          exact hc j v hj
        · rename_i hjx
          rw [h1] at hjx hj
          have hjy : j - n * i.size < ys.length := (List.getElem?_eq_some_iff.1 hj).1
          have := World.cell?_setCells_in b ys (o + n * i.size) w (fun k hk => by rw [hx.1] at hk; rw [Nat.add_assoc]; exact hs _ (by omega)) (j - n * i.size) hjy
          rw [show o + n * i.size + (j - n * i.size) = o + j by omega] at this
          rw [this, ← hj, List.getElem?_eq_getElem hjy]
      · by_cases hin : n * i.size ≤ j ∧ j < n * i.size + ys.length
        · have := World.cell?_setCells_in b ys (o + n * i.size) w (fun k hk => by rw [hx.1] at hk; rw [Nat.add_assoc]; exact hs _ (by omega)) (j - n * i.size) (by omega)
          rw [show o + n * i.size + (j - n * i.size) = o + j by omega] at this
          rw [this]; rfl
        · rw [World.cell?_setCells_out b ys _ w _ (fun _ _ => by simp only; omega)]
          exact hs j hj
      · rw [World.frozen?_setCells]; exact hf j hj
  · have hL := hx.len (P := P)
    have hC := hx.drew.cells (P := P) hsz
    have hO : (Builtin.firstCells i.size n (.slice A n c)).run P w.drew = .ok xs.toArray w.drew := Rd.load (w := w.drew) (show Rd w.drew A xs from hown.rd) i.size n n c hown.1 hsz
    have h63' : ¬ (9223372036854775807 < ((n : Int) + (m : Int))) := by omega
    have hfit := growslice_fits (need := n + m) (old := c) (bytes := i.bytes) (by omega) hbytes
    have h48' : ¬ (281474976710656 < Builtin.nextslicecap (n + m) c * i.bytes) := by omega
    have hge := grownCap_ge w (n + m) c e
    have hcm : grownCap w (n + m) c e ≤ maxLen := grownCap_le_maxLen w (n + m) c e h63
    have hsc : (xs.toArray ++ ys.toArray ++ Builtin.zeroCells z.cells (grownCap w (n + m) c e - (n + m))).size = grownCap w (n + m) c e * i.size := by
      simp only [Array.size_append, List.size_toArray, size_zeroCells, hzs, hown.1, hx.1, ← Nat.add_mul]
      congr 1
      omega
    refine ⟨some ⟨w.heap.size, 0, none⟩, grownCap w (n + m) c e, w.drew.alloc (.cells (xs.toArray ++ ys.toArray ++ Builtin.zeroCells z.cells (grownCap w (n + m) c e - (n + m))) e), ?_, ?_, ?_, .inr rfl⟩
    · rcases hu with hu | hu <;> simp [Builtin.append_, run_underlying ht, run_underlying hu, sizeOf, typeInfo, zeroValue, hi, hz, hL, hroom, h63', h48', Question.forced, hC, hO, newRow, grownCap] <;> (congr 2; apply Array.ext'; simp [List.append_assoc])
    · refine Own.new w.drew B i.size e (0, 0) _ (n + m) _ _ hlen hge hcm hsc hB (fun j _ h => by simp at h) (fun j v hj => ?_)
      rw [← Array.getElem?_toList]
      simp only [Array.toList_append]
      have hjl : j < (xs ++ ys).length := (List.getElem?_eq_some_iff.1 hj).1
      rw [List.getElem?_append_left hjl]
      exact hj
    · exact ⟨rfl, rfl, rfl, by simp, fun k hk _ => heap_alloc_old w.drew _ hk⟩

end Go.Cv
