/- Laws of our own, plain: no program text. -/
import Derived.WalkKit
import Derived.WalkLawsBesides
import Derived.WalkSpells
import Derived.Lib.Hide
import Derived.Laws.IdiomStrings
import Derived.Laws.IdiomCopy
import Derived.Laws.BytesArg
import Derived.Deep.Draws
import Derived.Deep.QuietTactic
import Derived.BigQuiet
import Derived.Maps.AppendAt
import Derived.Laws.CopyOwn
import Derived.KernelRfl
import Derived.Deep.MidRow
import Derived.Deep.RegionLaw
import Derived.Laws.BitsAllLaws
import Derived.ProofKit
import Derived.OpenShut
import Derived.ShutString
import Derived.ChangeOld
import Derived.Carry
import Derived.Handed
import Derived.LaidMore
import Derived.Stop.Joined
import Derived.Stop.LaidErr
import Derived.SizedLaws
/- Words of our own for rows of memory, byte slices and strings: no program text. -/
namespace Go.Cv
open Go.RowKit

/-- A goal at which the walk stands still. -/
def Held (p : Prop) : Prop := p
theorem Held.on {p : Prop} (h : Held p) : p := h

/-! ### strings as lists -/
/-- A string as a list of bytes. -/
def S (l : List UInt8) : ByteArray := ⟨l.toArray⟩
theorem S_size (l : List UInt8) : (S l).size = l.length := by simp [S, ByteArray.size]
theorem S_data (l : List UInt8) : (S l).data.toList = l := rfl
theorem S_of (s : ByteArray) : ∃ l, s = S l := ⟨s.data.toList, by cases s; rfl⟩
theorem S_inj {l k : List UInt8} (h : S l = S k) : l = k := by
  have := congrArg (fun s : ByteArray => s.data.toList) h
  simpa [S] using this
theorem toList_eq (b : ByteArray) : b.toList = b.data.toList := by
  have key : ∀ n i r, b.size - i = n → ByteArray.toList.loop b i r = r.reverse ++ b.data.toList.drop i := by
    intro n
    induction n with
    | zero =>
      intro i r h
      unfold ByteArray.toList.loop
      have hlt : ¬ i < b.size := by omega
      rw [if_neg hlt]
      have : b.data.toList.length = b.size := Array.length_toList
      rw [List.drop_eq_nil_of_le (by omega), List.append_nil]
    | succ n ih =>
      intro i r h
      unfold ByteArray.toList.loop
      have hlt : i < b.size := by omega
      rw [if_pos hlt, ih (i + 1) _ (by omega)]
      have hl : i < b.data.toList.length := by rw [Array.length_toList]; exact hlt
      rw [List.drop_eq_getElem_cons hl]
      have : b.get! i = b.data.toList[i] := by
        simp [ByteArray.get!]
        rw [getElem!_pos b.data i (by simpa using hl)]
      rw [this]
      simp
  unfold ByteArray.toList
  rw [key b.size 0 [] (by omega)]
  simp
theorem S_toList (l : List UInt8) : (S l).toList = l := by rw [toList_eq]; rfl
theorem S_append (l k : List UInt8) : S l ++ S k = S (l ++ k) := by
  have h : (S l ++ S k).data = (S (l ++ k)).data := by
    rw [ByteArray.data_append]; simp [S]
  cases hh : (S l ++ S k) with
  | mk d =>
    rw [hh] at h
    simp only [S] at h ⊢
    rw [h]

/-! ### rows that are read -/
/-- The address leads to the cells xs. -/
def Rd (w : World) (A : Option Addr) (xs : List Value) : Prop :=
  xs = [] ∨ ∃ b o, A = some ⟨b, o, none⟩ ∧ ∀ (j : Nat) (v : Value), xs[j]? = some v → w.cell? ⟨b, o + j, none⟩ = some v

theorem block_lt {w : World} {a : Addr} {v : Value} (h : w.cell? a = some v) : a.block < w.heap.size := World.block_lt_of_cell? w a h
theorem add_lit (b o j : Nat) : (⟨b, o, none⟩ : Addr).add j = ⟨b, o + j, none⟩ := by unfold Addr.add; split <;> simp_all

theorem Rd.nil (w : World) (A : Option Addr) : Rd w A [] := .inl rfl
theorem Rd.mono {w w' : World} {A : Option Addr} {xs : List Value} (h : Rd w A xs) (hb : ∀ a v, w.cell? a = some v → w'.cell? a = some v) : Rd w' A xs := by
  rcases h with h | ⟨b, o, hA, hc⟩
  · exact .inl h
  · exact .inr ⟨b, o, hA, fun j v hj => hb _ _ (hc j v hj)⟩
theorem keep_of_below {w w' : World} (hb : Below w.heap.size w w') : ∀ a v, w.cell? a = some v → w'.cell? a = some v :=
  fun a _ h => (hb.cell (p := a) (block_lt h)).trans h
theorem Rd.keep {w w' : World} {A : Option Addr} {xs : List Value} (h : Rd w A xs) (hb : Below w.heap.size w w') : Rd w' A xs := h.mono (keep_of_below hb)
theorem Rd.drop {w : World} {A : Option Addr} {xs : List Value} (h : Rd w A xs) (k : Nat) : Rd w (A.map (·.add k)) (xs.drop k) := by
  rcases h with h | ⟨b, o, rfl, hc⟩
  · subst h; exact .inl (by simp)
  · refine .inr ⟨b, o + k, by simp [add_lit], fun j v hj => ?_⟩
    rw [List.getElem?_drop] at hj
    have := hc _ _ hj
    rwa [← Nat.add_assoc] at this
theorem Rd.take {w : World} {A : Option Addr} {xs : List Value} (h : Rd w A xs) (k : Nat) : Rd w A (xs.take k) := by
  rcases h with h | ⟨b, o, rfl, hc⟩
  · subst h; exact .inl (by simp)
  · refine .inr ⟨b, o, rfl, fun j v hj => hc j v ?_⟩
    rw [List.getElem?_take] at hj
    split at hj
    · exact hj
    · cases hj
theorem Rd.of_empty {w : World} {A : Option Addr} {xs : List Value} (h : xs = []) : Rd w A xs := .inl h
/-- The cells, loaded one behind the other. -/
theorem Rd.load {P : Program} {w : World} {A : Option Addr} {xs : List Value} (h : Rd w A xs) (size n len cap : Nat) (hl : xs.length = n * size) (hs : 0 < size) :
    (Builtin.firstCells size n (.slice A len cap)).run P w = .ok xs.toArray w := by
  rcases h with h | ⟨b, o, rfl, hc⟩
  · subst h
    have hn : n = 0 := by
      rcases Nat.eq_zero_or_pos n with h0 | h0
      · exact h0
      · have := Nat.mul_pos h0 hs
        simp at hl; omega
    subst hn
    cases A with
    | none => simp [Builtin.firstCells]
    | some a =>
      simp only [Builtin.firstCells, Nat.zero_mul]
      exact run_loadCells_list w a [] (by simp)
  · exact run_firstCells_some w size n ⟨b, o, none⟩ len cap xs hl fun j v hj => by rw [add_lit]; exact hc j v hj

/-- The cells of bytes. -/
def vs (l : List UInt8) : List Value := l.map fun b => Value.int .u8 b.toNat
theorem vs_length (l : List UInt8) : (vs l).length = l.length := by simp [vs]
theorem vs_nil : vs [] = [] := rfl
theorem vs_append (l k : List UInt8) : vs (l ++ k) = vs l ++ vs k := by simp [vs]
theorem vs_drop (l : List UInt8) (k : Nat) : vs (l.drop k) = (vs l).drop k := by simp [vs, List.map_drop]
theorem vs_take (l : List UInt8) (k : Nat) : vs (l.take k) = (vs l).take k := by simp [vs, List.map_take]
theorem vs_get (l : List UInt8) (j : Nat) (h : j < l.length) : (vs l)[j]? = some (.int .u8 (l.getD j 0).toNat) := by
  simp [vs, List.getD, h]
theorem vs_one (l : List UInt8) : ∀ u ∈ vs l, u.oneCell' = true := by
  intro u hu
  simp only [vs, List.mem_map] at hu
  obtain ⟨b, _, rfl⟩ := hu
  rfl
/-- A byte of a row. -/
theorem Rd.byte {w : World} {b o : Nat} {l : List UInt8} (h : Rd w (some ⟨b, o, none⟩) (vs l)) (j : Nat) (hj : j < l.length) : w.cell? ⟨b, o + j, none⟩ = some (.int .u8 (l.getD j 0).toNat) := by
  rcases h with h | ⟨b', o', hA, hc⟩
  · have := congrArg List.length h
    rw [vs_length] at this
    simp at this; subst this; simp at hj
  · injection hA with hA; injection hA with h1 h2; subst h1 h2
    exact hc j _ (vs_get l j hj)
theorem Rd.addr {w : World} {A : Option Addr} {l : List UInt8} (h : Rd w A (vs l)) (hl : l ≠ []) : ∃ b o, A = some ⟨b, o, none⟩ := by
  rcases h with h | ⟨b, o, hA, _⟩
  · exact absurd (by simpa [vs] using h) hl
  · exact ⟨b, o, hA⟩

/-! ### rows of the call's own -/
/-- The slice value '.slice A n c' (elements of sz cells) owns a row in a block from B on: its n elements are the cells xs, all c places are there and may be written. -/
def Own (w : World) (B sz : Nat) (A : Option Addr) (n c : Nat) (xs : List Value) : Prop :=
  xs.length = n * sz ∧ n ≤ c ∧ c ≤ maxLen ∧ (c = 0 ∨ ∃ b o, A = some ⟨b, o, none⟩ ∧ B ≤ b ∧
    (∀ (j : Nat) (v : Value), xs[j]? = some v → w.cell? ⟨b, o + j, none⟩ = some v) ∧
    (∀ j, j < c * sz → (w.cell? ⟨b, o + j, none⟩).isSome = true) ∧ (∀ j, j < c * sz → w.frozen? ⟨b, o + j, none⟩ = false))

theorem Own.rd {w : World} {B sz n c : Nat} {A : Option Addr} {xs : List Value} (h : Own w B sz A n c xs) : Rd w A xs := by
  obtain ⟨h1, h2, _, h0 | ⟨b, o, hA, _, hc, _⟩⟩ := h
  · refine .inl (List.eq_nil_of_length_eq_zero ?_)
    have : n = 0 := by omega
    subst this
    simpa using h1
  · exact .inr ⟨b, o, hA, hc⟩
theorem Own.empty (w : World) (B sz : Nat) (A : Option Addr) : Own w B sz A 0 0 [] := ⟨by simp, Nat.le_refl _, by simp [maxLen], .inl rfl⟩
theorem Own.nil (w : World) (B sz : Nat) : Own w B sz none 0 0 [] := Own.empty w B sz none
/-- Cells of rows from B on are as they were. -/
theorem Own.mono {w w' : World} {B sz n c : Nat} {A : Option Addr} {xs : List Value} (h : Own w B sz A n c xs)
    (hb : ∀ a : Addr, A.map (·.block) = some a.block → a.block < w.heap.size → w'.cell? a = w.cell? a ∧ w'.frozen? a = w.frozen? a) : Own w' B sz A n c xs := by
  obtain ⟨h1, h2, h3, h0 | ⟨b, o, rfl, hB, hc, hs, hf⟩⟩ := h
  · exact ⟨h1, h2, h3, .inl h0⟩
  · have hlt : ∀ j, j < c * sz → b < w.heap.size := fun j hj => by
      obtain ⟨u, hu⟩ := Option.isSome_iff_exists.1 (hs j hj)
      exact block_lt hu
    refine ⟨h1, h2, h3, .inr ⟨b, o, rfl, hB, fun j v hj => ?_, fun j hj => ?_, fun j hj => ?_⟩⟩
    · have hcell := hc j v hj
      rw [(hb ⟨b, o + j, none⟩ rfl (block_lt hcell)).1]; exact hcell
    · rw [(hb ⟨b, o + j, none⟩ rfl (hlt j hj)).1]; exact hs j hj
    · rw [(hb ⟨b, o + j, none⟩ rfl (hlt j hj)).2]; exact hf j hj
theorem Own.keep {w w' : World} {B sz n c : Nat} {A : Option Addr} {xs : List Value} (h : Own w B sz A n c xs) (hb : Below w.heap.size w w') : Own w' B sz A n c xs :=
  h.mono fun _ _ hlt => ⟨hb.cell hlt, hb.frozen hlt⟩
/-- Another row was written. -/
theorem Own.grown {w w' : World} {B sz n c : Nat} {A : Option Addr} {xs : List Value} {row : Option Nat} (h : Own w B sz A n c xs) (hg : w.grownBy w' row) (hne : A.map (·.block) ≠ row ∨ A = none) : Own w' B sz A n c xs :=
  h.mono fun a ha hlt => by
    have hn : some a.block ≠ row := by
      rcases hne with hne | rfl
      · rw [← ha]; exact hne
      · simp at ha
    exact ⟨World.cell?_of_block (hg.block _ hlt hn), World.frozen?_of_block (hg.block _ hlt hn)⟩
theorem Own.lower {w : World} {B B' sz n c : Nat} {A : Option Addr} {xs : List Value} (h : Own w B sz A n c xs) (hB : B' ≤ B) : Own w B' sz A n c xs := by
  obtain ⟨h1, h2, h3, h0 | ⟨b, o, hA, hb, r⟩⟩ := h
  · exact ⟨h1, h2, h3, .inl h0⟩
  · exact ⟨h1, h2, h3, .inr ⟨b, o, hA, Nat.le_trans hB hb, r⟩⟩
/-- A new row. -/
theorem Own.new (w : World) (B sz e : Nat) (fz : Nat × Nat) (cur : Array Value) (n c : Nat) (xs : List Value) (hl : xs.length = n * sz) (hnc : n ≤ c) (hc : c ≤ maxLen) (hs : cur.size = c * sz)
    (hB : B ≤ w.heap.size) (hf : ∀ j, j < c * sz → ¬ (fz.1 ≤ j ∧ j < fz.2)) (hx : ∀ (j : Nat) (v : Value), xs[j]? = some v → cur[j]? = some v) :
    Own (w.alloc (.cells cur e fz)) B sz (some ⟨w.heap.size, 0, none⟩) n c xs := by
  have hg : (w.alloc (.cells cur e fz)).heap[w.heap.size]? = some (.cells cur e fz) := heap_alloc_new w _
  refine ⟨hl, hnc, hc, .inr ⟨w.heap.size, 0, rfl, hB, fun j v hj => ?_, fun j hj => ?_, fun j hj => ?_⟩⟩
  · rw [cell_of_row _ _ _ cur e fz hg, Nat.zero_add]; exact hx j v hj
  · rw [cell_of_row _ _ _ cur e fz hg, Nat.zero_add]
    simp [hs, hj]
  · have := hf j hj
    simp only [World.frozen?, hg, Nat.zero_add]
    simpa using this

theorem heap_setCells_other (b : Nat) : ∀ (ys : List Value) (o : Nat) (w : World) (k : Nat), k ≠ b → (w.setCells b o ys).heap[k]? = w.heap[k]?
  | [], _, _, _, _ => rfl
  | v :: r, o, w, k, h => by
    rw [World.setCells, heap_setCells_other b r _ _ k h]
    exact Below.heap_setCell w _ v k h
theorem size_setCells (b : Nat) : ∀ (ys : List Value) (o : Nat) (w : World), (w.setCells b o ys).heap.size = w.heap.size
  | [], _, _ => rfl
  | v :: r, o, w => by rw [World.setCells, size_setCells b r]; simp
theorem rest_setCells (b : Nat) : ∀ (ys : List Value) (o : Nat) (w : World), (w.setCells b o ys).os = w.os ∧ (w.setCells b o ys).tape = w.tape ∧ (w.setCells b o ys).output = w.output
  | [], _, _ => ⟨rfl, rfl, rfl⟩
  | v :: r, o, w => by rw [World.setCells]; exact rest_setCells b r _ _
theorem grownBy_setCells (w : World) (b o : Nat) (ys : List Value) : w.grownBy (w.setCells b o ys) (some b) :=
  ⟨(rest_setCells b ys o w).1, (rest_setCells b ys o w).2.1, (rest_setCells b ys o w).2.2, by rw [size_setCells]; exact Nat.le_refl _,
    fun k _ hk => heap_setCells_other b ys o w k (fun e => hk (by rw [e]))⟩

/-! ### append -/
/-- What is appended. -/
def Src (w : World) (sz : Nat) (m : Nat) (x : Value) (ys : List Value) : Prop :=
  ys.length = m * sz ∧ (∀ u ∈ ys, u.oneCell' = true) ∧ ((∃ A c, x = .slice A m c ∧ Rd w A ys) ∨ (∃ l, sz = 1 ∧ x = .string (S l) ∧ ys = vs l))
theorem Src.len {P : Program} {w : World} {sz m : Nat} {x : Value} {ys : List Value} (h : Src w sz m x ys) : (Builtin.lenOf x).run P w = .ok m w := by
  obtain ⟨h1, _, ⟨A, c, rfl, _⟩ | ⟨l, rfl, rfl, rfl⟩⟩ := h
  · rfl
  · rw [vs_length] at h1
    simp [Builtin.lenOf, S_size, h1]
theorem Src.drew {w : World} {sz m : Nat} {x : Value} {ys : List Value} (h : Src w sz m x ys) : Src w.drew sz m x ys := h
theorem Src.cells {P : Program} {w : World} {sz m : Nat} {x : Value} {ys : List Value} (h : Src w sz m x ys) (hs : 0 < sz) : (Builtin.firstCells sz m x).run P w = .ok ys.toArray w := by
  obtain ⟨h1, _, ⟨A, c, rfl, hr⟩ | ⟨l, rfl, rfl, rfl⟩⟩ := h
  · exact hr.load sz m m c h1 hs
  · rw [vs_length] at h1
    have : m = (S l).size := by rw [S_size]; omega
    subst this
    simp [Builtin.firstCells, vs, S, ByteArray.size, Array.extract_eq_self_of_le]

theorem toList_zeroCells_length (z : Array Value) (n : Nat) : (Builtin.zeroCells z n).toList.length = n * z.size := by simp [Builtin.zeroCells]

theorem run_append {P : Program} (w : World) (B : Nat) (t u ty e : TypeId) (i : TypeInfo) (z : Value) (sz by_ : Nat) (ht : P.underlying t = some (.slice e)) (hu : P.underlying u = some (.slice e) ∨ P.underlying u = some .string) (hi : P.info? e = some i) (hz : i.zero = some z)
    (hsize : i.size = sz) (hby : i.bytes = by_) (hzs : z.cells.size = sz) (hsz : 0 < sz)
    (A : Option Addr) (n c : Nat) (xs : List Value) (hown : Own w B sz A n c xs) (x : Value) (m : Nat) (ys : List Value) (hx : Src w sz m x ys)
    (hbytes : (n + m) * by_ ≤ 140737488355328) (h63 : n + m ≤ maxLen) (hB : B ≤ w.heap.size) :
    ∃ A' c' w', (Builtin.append_ #[t, u] ty #[.slice A n c, x]).run P w = .ok (.slice A' (n + m) c') w' ∧ Own w' B sz A' (n + m) c' (xs ++ ys) ∧ w.grownBy w' (A.map (·.block)) ∧
      ((A' = A ∧ c' = c) ∨ A' = some ⟨w.heap.size, 0, none⟩) := by
  subst hsize hby
  have hlen : (xs ++ ys).length = (n + m) * i.size := by rw [List.length_append, hown.1, hx.1, Nat.add_mul]
  have hsmall : n + m ≤ 9223372036854775807 := by simp only [maxLen] at h63; omega
  by_cases hroom : n + m ≤ c
  · have hL := hx.len (P := P)
    have hC := hx.cells (P := P) hsz
    obtain ⟨h1, h2, h3, h0 | ⟨b, o, rfl, hBb, hc, hs, hf⟩⟩ := hown
    · have hn0 : n = 0 := by omega
      have hm0 : m = 0 := by omega
      subst hn0 hm0 h0
      have hxs : xs = [] := List.eq_nil_of_length_eq_zero (by simpa using h1)
      have hys : ys = [] := List.eq_nil_of_length_eq_zero (by simpa using hx.1)
      subst hxs hys
      refine ⟨A, 0, w, ?_, Own.empty w B _ A, World.grownBy.refl w _, .inl ⟨rfl, rfl⟩⟩
      cases A with
      | none => rcases hu with hu | hu <;> simp [Builtin.append_, run_underlying ht, run_underlying hu, sizeOf, typeInfo, hi, hL, hC]
      | some a => rcases hu with hu | hu <;> simp [Builtin.append_, run_underlying ht, run_underlying hu, sizeOf, typeInfo, hi, hL, hC, storeCells]
    · have hlt : n * i.size + m * i.size ≤ c * i.size := by rw [← Nat.add_mul]; exact Nat.mul_le_mul_right _ hroom
      have hst := run_storeCells_cells (P := P) b (o + n * i.size) ys 0 w
        (fun j hj => by rw [hx.1] at hj; rw [Nat.add_zero, Nat.add_assoc]; exact hs _ (by omega))
        (fun j hj => by rw [hx.1] at hj; rw [Nat.add_zero, Nat.add_assoc]; exact hf _ (by omega)) hx.2.1
      rw [Nat.add_zero] at hst
      refine ⟨some ⟨b, o, none⟩, c, w.setCells b (o + n * i.size) ys, ?_, ⟨hlen, hroom, h3, .inr ⟨b, o, rfl, hBb, fun j v hj => ?_, fun j hj => ?_, fun j hj => ?_⟩⟩, grownBy_setCells w b _ ys, .inl ⟨rfl, rfl⟩⟩
      · rcases hu with hu | hu <;> simp [Builtin.append_, run_underlying ht, run_underlying hu, sizeOf, typeInfo, hi, hL, hC, hroom, add_lit, hst]
      · rw [List.getElem?_append] at hj
        split at hj
        · rename_i hjx
          rw [World.cell?_setCells_out b ys _ w _ (fun _ _ => .inl (by simp only; rw [h1] at hjx; omega))]
          exact hc j v hj
        · rename_i hjx
          rw [h1] at hjx hj
          have hjy : j - n * i.size < ys.length := (List.getElem?_eq_some_iff.1 hj).1
          have := World.cell?_setCells_in b ys (o + n * i.size) w (fun k hk => by rw [hx.1] at hk; rw [Nat.add_assoc]; exact hs _ (by omega)) (j - n * i.size) hjy
          rw [show o + n * i.size + (j - n * i.size) = o + j by omega] at this
          rw [this, ← hj, List.getElem?_eq_getElem hjy]
      · by_cases hin : n * i.size ≤ j ∧ j < n * i.size + ys.length
        · have := World.cell?_setCells_in b ys (o + n * i.size) w (fun k hk => by rw [hx.1] at hk; rw [Nat.add_assoc]; exact hs _ (by omega)) (j - n * i.size) (by omega)
          rw [show o + n * i.size + (j - n * i.size) = o + j by omega] at this
          rw [this]; rfl
        · rw [World.cell?_setCells_out b ys _ w _ (fun _ _ => by simp only; omega)]
          exact hs j hj
      · rw [World.frozen?_setCells]; exact hf j hj
  · have hL := hx.len (P := P)
    have hC := hx.drew.cells (P := P) hsz
    have hO : (Builtin.firstCells i.size n (.slice A n c)).run P w.drew = .ok xs.toArray w.drew := Rd.load (w := w.drew) (show Rd w.drew A xs from hown.rd) i.size n n c hown.1 hsz
    have h63' : ¬ (9223372036854775807 < ((n : Int) + (m : Int))) := by omega
    have hfit := growslice_fits (need := n + m) (old := c) (bytes := i.bytes) (by omega) hbytes
    have h48' : ¬ (281474976710656 < Builtin.nextslicecap (n + m) c * i.bytes) := by omega
    have hge := grownCap_ge w (n + m) c e
    have hcm : grownCap w (n + m) c e ≤ maxLen := grownCap_le_maxLen w (n + m) c e h63
    have hsc : (xs.toArray ++ ys.toArray ++ Builtin.zeroCells z.cells (grownCap w (n + m) c e - (n + m))).size = grownCap w (n + m) c e * i.size := by
      simp only [Array.size_append, List.size_toArray, size_zeroCells, hzs, hown.1, hx.1, ← Nat.add_mul]
      congr 1
      omega
    refine ⟨some ⟨w.heap.size, 0, none⟩, grownCap w (n + m) c e, w.drew.alloc (.cells (xs.toArray ++ ys.toArray ++ Builtin.zeroCells z.cells (grownCap w (n + m) c e - (n + m))) e), ?_, ?_, ?_, .inr rfl⟩
    · rcases hu with hu | hu <;> simp [Builtin.append_, run_underlying ht, run_underlying hu, sizeOf, typeInfo, zeroValue, hi, hz, hL, hroom, h63', h48', Question.forced, hC, hO, newRow, grownCap] <;> (congr 2; apply Array.ext'; simp [List.append_assoc])
    · refine Own.new w.drew B i.size e (0, 0) _ (n + m) _ _ hlen hge hcm hsc hB (fun j _ h => by simp at h) (fun j v hj => ?_)
      rw [← Array.getElem?_toList]
      simp only [Array.toList_append]
      have hjl : j < (xs ++ ys).length := (List.getElem?_eq_some_iff.1 hj).1
      rw [List.getElem?_append_left hjl]
      exact hj
    · exact ⟨rfl, rfl, rfl, by simp, fun k hk _ => heap_alloc_old w.drew _ hk⟩

end Go.Cv
/- Laws of our own at single operations: conversions, append, make, slices, copy: no program text. -/
namespace Go.Cv
open Go.RowKit

theorem held {p : Prop} (h : p) : Held p := h

section
variable {P : Program} {o : Oper} {a : Act} {K : Act → World → Prop} {Q : Exit → Act → World → Prop} {w : World}

/-- '[]byte(s)'. -/
theorem upon_conv_sb (t1 t2 e : TypeId) (hs : P.underlying t1 = some .string) (hd : P.underlying t2 = some (.slice e)) (he : P.underlying e = some (.int .u8)) (l : List UInt8) (hl : l.length ≤ maxLen)
    (h : ∀ c w1, Own w1 w.heap.size 1 (some ⟨w.heap.size, 0, none⟩) l.length c (vs l) → Below w.heap.size w w1 → w.heap.size < w1.heap.size → K (a.put o.dst (.slice (some ⟨w.heap.size, 0, none⟩) l.length c)) w1) :
    Oper.upon P o a K Q ((Sem.run P (convert t1 t2 (.string (S l))) w).andThen fun a w' => .ok (.value a) w') := by
  rw [run_bytes_of_string w t1 t2 e (S l) hs hd he]
  show K (a.put o.dst _) _
  rw [S_size]
  have hge := grownCap_ge w l.length 0 e
  have hcm := grownCap_le_maxLen w l.length 0 e hl
  generalize grownCap w l.length 0 e = c at *
  have hsz : (bytesRow (S l) c).size = c := by
    simp only [bytesRow, Array.size_append, Array.size_map, Array.size_replicate]
    have : (S l).data.size = l.length := by simp [S]
    rw [this, S_size]; omega
  refine h c _ (Own.new w.drew w.heap.size 1 e _ _ l.length c (vs l) (by rw [vs_length]; omega) hge hcm (by rw [hsz]; omega) (by simp) (fun j hj hh => ?_) (fun j v hj => ?_)) ?_ (by simp)
  · rw [hsz] at hh; simp at hh; omega
  · have hjl : j < (vs l).length := (List.getElem?_eq_some_iff.1 hj).1
    rw [vs_length] at hjl
    simp only [bytesRow]
    rw [Array.getElem?_append_left (by simp [S]; exact hjl)]
    rw [vs_get l j hjl] at hj
    injection hj with hj
    subst hj
    simp [S, List.getD, hjl]
  · exact ((Below.refl _ w).drew).alloc (by simp) _

/-- 'string(b)'. -/
theorem strOfNums_vs (l : List UInt8) : ByteArray.mk ((l.map fun b => UInt8.ofNat (Int.toNat (b.toNat : Int))).toArray) = S l := by
  simp [S]
theorem run_conv_bs (w : World) (t1 t2 e : TypeId) (hs : P.underlying t1 = some (.slice e)) (he : P.underlying e = some (.int .u8)) (hd : P.underlying t2 = some .string) (l : List UInt8) (A : Option Addr) (n c : Nat) (hn : l.length = n) (hr : Rd w A (vs l)) :
    (convert t1 t2 (.slice A n c)).run P w = .ok (.string (S l)) w := by
  rw [run_convert_bytes_string w t1 t2 e _ n c hs he hd]
  cases A with
  | none =>
    rcases hr with h | ⟨b, o, hA, _⟩
    · have : l = [] := by simpa [vs] using h
      subst this
      simp [Conv.bytesToString]
      rfl
    · cases hA
  | some ad =>
    have hl : (loadCells ad n).run P w = .ok ((l.map fun b => (b.toNat : Int)).map (Value.int .u8)).toArray w := by
      have hc : ∀ (j : Nat) (v : Value), (vs l)[j]? = some v → w.cell? (ad.add j) = some v := by
        intro j v hj
        rcases hr with h | ⟨b, o, hA, hc⟩
        · rw [h] at hj; simp at hj
        · injection hA with hA; subst hA
          rw [add_lit]; exact hc j v hj
      have := run_loadCells_list (P := P) w ad (vs l) hc
      rw [vs_length, hn] at this
      rw [this]
      simp [vs, List.map_map, Function.comp_def]
    rw [run_bytesToString w ad n c _ hl, foldl_push_bytes]
    simp [ByteArray.empty, ByteArray.emptyWithCapacity, S, List.map_map, Function.comp_def]
    rfl
theorem upon_conv_bs (t1 t2 e : TypeId) (hs : P.underlying t1 = some (.slice e)) (he : P.underlying e = some (.int .u8)) (hd : P.underlying t2 = some .string) (l : List UInt8) (A : Option Addr) (n c : Nat) (hn : l.length = n) (hr : Rd w A (vs l))
    (h : K (a.put o.dst (.string (S l))) w) :
    Oper.upon P o a K Q ((Sem.run P (convert t1 t2 (.slice A n c)) w).andThen fun a w' => .ok (.value a) w') := by
  rw [run_conv_bs w t1 t2 e hs he hd l A n c hn hr]
  exact h
end

section
variable {P : Program} {ops : Array Oper} {rest : List Oper} {o : Oper} {a : Act} {Q : Exit → Act → World → Prop} {w : World}
/-- 'append(s, x...)'. -/
theorem held_append (hgd : o.guard = none) (s x : Operand) (t u : TypeId) (ho : o.op = .call { callee := .builtin .append, args := #[s, x], argTypes := #[t, u] })
    (B e : Nat) (z : Value) (sz by_ : Nat) (ht : P.underlying t = some (.slice e)) (hu : P.underlying u = some (.slice e) ∨ P.underlying u = some .string)
    (hi : (P.info? e).map (fun i => (i.zero, i.size, i.bytes)) = some (some z, sz, by_)) (hzs : z.cells.size = sz) (hsz : 0 < sz)
    {A : Option Addr} {n c m : Nat} {xs ys : List Value} {xv : Value} (hs : a.eval s = .slice A n c) (hx : a.eval x = xv) (hown : Own w B sz A n c xs) (hsrc : Src w sz m xv ys)
    (hbytes : (n + m) * by_ ≤ 140737488355328) (h63 : n + m ≤ maxLen) (hB : B ≤ w.heap.size)
    (h : ∀ A' c' w', Own w' B sz A' (n + m) c' (xs ++ ys) → w.grownBy w' (A.map (·.block)) → ((A' = A ∧ c' = c) ∨ A' = some ⟨w.heap.size, 0, none⟩) → wpList P ops Q rest (a.put o.dst (.slice A' (n + m) c')) w') :
    Held (wpList P ops Q (o :: rest) a w) := by
  refine held (wpList_plain hgd fun K hK => ?_)
  obtain ⟨i, hi1, hi2, hi3, hi4⟩ := info_parts hi
  obtain ⟨A', c', w', hr, h2, h3, h4⟩ := run_append (P := P) w B t u o.type e i z sz by_ ht hu hi1 hi2 hi3 hi4 hzs hsz A n c xs hown xv m ys hsrc hbytes h63 hB
  unfold Oper.wp execOp
  simp only [ho, resolve, invoke, builtin, Sem.run_bind, Sem.run_pure, Result.andThen_ok, List.map_toArray, List.map_cons, List.map_nil, hs, hx, hr]
  exact hK _ _ (h A' c' w' h2 h3 h4)
end

/-- The frame of 'grownBy' over a row of the call's own. -/
theorem below_grown {B : Nat} {w w' : World} {sz n c : Nat} {A : Option Addr} {xs : List Value} (hg : w.grownBy w' (A.map (·.block))) (hown : Own w B sz A n c xs) (hB : B ≤ w.heap.size) (hc : c = 0 → A = none ∨ ∃ b o, A = some ⟨b, o, none⟩ ∧ B ≤ b) : Below B w w' := by
  refine (Below.refl B w).grown hg hB fun k hk => ?_
  rcases hown.2.2.2 with h0 | ⟨b, o, rfl, hBb, _⟩
  · rcases hc h0 with rfl | ⟨b, o, rfl, hBb⟩
    · simp at hk
    · simp at hk; omega
  · simp at hk; omega
/-! ### a store into a row of the call's own -/
theorem Own.set {w : World} {B n c : Nat} {b o : Nat} {xs : List Value} (h : Own w B 1 (some ⟨b, o, none⟩) n c xs) (j : Nat) (hj : j < n) (u : Value) :
    Own (w.setCell ⟨b, o + j, none⟩ u) B 1 (some ⟨b, o, none⟩) n c (xs.set j u) := by
  obtain ⟨h1, h2, h3, h0 | ⟨b', o', hA, hB, hc, hs, hf⟩⟩ := h
  · omega
  · injection hA with hA; injection hA with e1 e2; subst e1 e2
    obtain ⟨v0, hv0⟩ := Option.isSome_iff_exists.1 (hs j (by omega))
    refine ⟨by simpa using h1, h2, h3, .inr ⟨b, o, rfl, hB, fun i v hi => ?_, fun i hi => ?_, fun i hi => ?_⟩⟩
    · by_cases hij : i = j
      · subst hij
        rw [World.cell?_setCell_same _ _ _ hv0]
        rw [List.getElem?_set] at hi
        simp at hi
        rw [hi.2]
      · rw [World.cell?_setCell_other _ _ _ _ (by intro e; injection e; omega)]
        rw [List.getElem?_set, if_neg (by omega)] at hi
        exact hc i v hi
    · by_cases hij : i = j
      · subst hij
        rw [World.cell?_setCell_same _ _ _ hv0]; rfl
      · rw [World.cell?_setCell_other _ _ _ _ (by intro e; injection e; omega)]
        exact hs i hi
    · rw [World.frozen?_setCell]; exact hf i hi
theorem Own.at_ {w : World} {B n c : Nat} {b o : Nat} {xs : List Value} (h : Own w B 1 (some ⟨b, o, none⟩) n c xs) (j : Nat) (hj : j < n) :
    ∃ v, xs[j]? = some v ∧ w.cell? ⟨b, o + j, none⟩ = some v ∧ w.frozen? ⟨b, o + j, none⟩ = false := by
  obtain ⟨h1, h2, h3, h0 | ⟨b', o', hA, hB, hc, hs, hf⟩⟩ := h
  · omega
  · injection hA with hA; injection hA with e1 e2; subst e1 e2
    have hl : j < xs.length := by omega
    exact ⟨xs[j], List.getElem?_eq_getElem hl, hc j _ (List.getElem?_eq_getElem hl), hf j (by omega)⟩


/-! ### make -/
theorem run_make_any {P : Program} (w : World) (t e : TypeId) (z : Value) (sz by_ : Nat) (ht : P.underlying t = some (.slice e)) (hi : (P.info? e).map (fun i => (i.zero, i.size, i.bytes)) = some (some z, sz, by_)) (hzs : z.cells.size = sz)
    (kl kc : IntKind) (l c : Int) (n m : Nat) (hl : l = n) (hc : c = m) (hnm : n ≤ m) (hb : by_ * m ≤ 281474976710656) (h63 : m ≤ maxLen) :
    (Instr.makeSlice t (.int kl l) (.int kc c)).run P w = .ok (.slice (some ⟨w.heap.size, 0, none⟩) n m) (w.alloc (.cells (madeCells z.cells (m * sz)) e)) := by
  obtain ⟨i, hi1, hi2, hi3, hi4⟩ := info_parts hi
  subst hl hc hi3 hi4
  have h := run_make (P := P) w t e i z ht hi1 hi2 kl kc n m (by omega) (by omega) (by rw [← Int.natCast_mul]; omega) (by simp only [maxLen] at h63; omega)
  simpa using h
theorem made_one (z : Value) (n : Nat) (hz : z.cells.size = 1) : (madeCells z.cells n).toList = List.replicate n z.cells[0]! := by
  have : z.cells = #[z.cells[0]!] := by
    apply Array.ext
    · simp [hz]
    · intro i h1 h2
      have : i = 0 := by omega
      subst this
      simp [h1]
  rw [this, toList_madeCells_one]
  simp
theorem own_made (w : World) (e : TypeId) (z : Value) (n m : Nat) (hz : z.cells = #[z]) (hnm : n ≤ m) (h63 : m ≤ maxLen) :
    Own (w.alloc (.cells (madeCells z.cells (m * 1)) e)) w.heap.size 1 (some ⟨w.heap.size, 0, none⟩) n m (List.replicate n z) := by
  refine Own.new w w.heap.size 1 e (0, 0) _ n m _ (by simp) hnm h63 (by rw [size_madeCells]) (Nat.le_refl _) (fun j _ h => by simp at h) (fun j v hj => ?_)
  rw [Nat.mul_one, ← Array.getElem?_toList, made_one z m (by rw [hz]; rfl), hz]
  have hjn : j < n := by
    have := (List.getElem?_eq_some_iff.1 hj).1
    simpa using this
  rw [List.getElem?_replicate] at hj ⊢
  rw [if_pos hjn] at hj
  rw [if_pos (by omega)]
  exact hj
section
variable {P : Program} {o : Oper} {a : Act} {K : Act → World → Prop} {Q : Exit → Act → World → Prop} {w : World}
/-- 'make([]T, n, m)', T of one cell. -/
theorem upon_make (t e : TypeId) (z : Value) (by_ : Nat) (ht : P.underlying t = some (.slice e)) (hi : (P.info? e).map (fun i => (i.zero, i.size, i.bytes)) = some (some z, 1, by_)) (hz : z.cells = #[z])
    {kl kc : IntKind} {l c : Int} (n m : Nat) (hl : l = n) (hc : c = m) (hnm : n ≤ m) (hb : by_ * m ≤ 281474976710656) (h63 : m ≤ maxLen)
    (h : ∀ w1, Own w1 w.heap.size 1 (some ⟨w.heap.size, 0, none⟩) n m (List.replicate n z) → Below w.heap.size w w1 → w1.heap.size = w.heap.size + 1 → K (a.put o.dst (.slice (some ⟨w.heap.size, 0, none⟩) n m)) w1) :
    Oper.upon P o a K Q ((Sem.run P (Instr.makeSlice t (.int kl l) (.int kc c)) w).andThen fun a w' => .ok (.value a) w') := by
  rw [run_make_any w t e z 1 by_ ht hi (by rw [hz]; rfl) kl kc l c n m hl hc hnm hb h63]
  exact h _ (own_made w e z n m hz hnm h63) ((Below.refl _ w).alloc (Nat.le_refl _) _) (by simp)
end
theorem run_add {P : Program} (l k : List UInt8) (h : l.length + k.length ≤ 9223372036854775807) (w : World) : (Op.stringOp .add (S l) (S k)).run P w = .ok (.string (S (l ++ k))) w := by
  rw [run_string_add_sum w _ _ (by rw [S_size, S_size]; exact h), S_append]
theorem run_add_eq {P : Program} (l k m : List UInt8) (he : l ++ k = m) (h : m.length ≤ 9223372036854775807) (w : World) : (Op.stringOp .add (S l) (S k)).run P w = .ok (.string (S m)) w := by
  subst he
  exact run_add l k (by rw [← List.length_append]; exact h) w
theorem below_undrew {B : Nat} {w w2 : World} (h : Below B w.drew w2) : Below B w w2 := ⟨h.os, h.tape, h.output, h.size, h.block⟩
/-- Two callees, one behind the other. -/
theorem below_two {w w1 w2 : World} (h1 : Below w.heap.size w w1) (h2 : Below w1.heap.size w1 w2) : Below w.heap.size w w2 := h1.trans (h2.mono h1.size)

/-! ### blocks known whole; struct results -/
def Blk (w : World) (g : Nat) (t : TypeId) (cs : Array Value) : Prop := w.heap[g]? = some (.cells cs t (0, 0))
theorem Blk.lt {w : World} {g : Nat} {t : TypeId} {cs : Array Value} (h : Blk w g t cs) : g < w.heap.size := by
  rcases Nat.lt_or_ge g w.heap.size with hlt | hge
  · exact hlt
  · unfold Blk at h; rw [Array.getElem?_eq_none hge] at h; cases h
theorem Blk.cell {w : World} {g : Nat} {t : TypeId} {cs : Array Value} (h : Blk w g t cs) (i : Nat) : w.cell? ⟨g, i, none⟩ = cs[i]? := cell_of_row w g i cs t (0, 0) h
theorem Blk.frozen {w : World} {g : Nat} {t : TypeId} {cs : Array Value} (h : Blk w g t cs) (i : Nat) : w.frozen? ⟨g, i, none⟩ = false := by
  unfold Blk at h; simp [World.frozen?, h]
theorem Blk.new (w : World) (t : TypeId) (cs : Array Value) : Blk (w.alloc (.cells cs t)) w.heap.size t cs := heap_alloc_new w _
theorem Blk.keep {w w' : World} {g : Nat} {t : TypeId} {cs : Array Value} (h : Blk w g t cs) (hb : Below w.heap.size w w') : Blk w' g t cs := (hb.block g h.lt).trans h
theorem Blk.below {w w' : World} {B g : Nat} {t : TypeId} {cs : Array Value} (h : Blk w g t cs) (hb : Below B w w') (hg : g < B) : Blk w' g t cs := (hb.block g hg).trans h
theorem Blk.alloc {w : World} {g : Nat} {t : TypeId} {cs : Array Value} (h : Blk w g t cs) (o : Obj) : Blk (w.alloc o) g t cs := h.keep ((Below.refl _ w).alloc (Nat.le_refl _) o)
theorem Blk.grown {w w' : World} {g : Nat} {t : TypeId} {cs : Array Value} {row : Option Nat} (h : Blk w g t cs) (hg : w.grownBy w' row) (hne : some g ≠ row) : Blk w' g t cs := (hg.block g h.lt hne).trans h
theorem Blk.setRow {w : World} {g : Nat} {t : TypeId} {cs : Array Value} (h : Blk w g t cs) (ds : Array Value) : Blk (w.setRow g ds) g t ds := setRow_heap w g cs ds t (0, 0) h
theorem Blk.set_ {w : World} {g : Nat} {t : TypeId} {cs : Array Value} (h : Blk w g t cs) (i : Nat) (u : Value) : Blk (w.setCell ⟨g, i, none⟩ u) g t (cs.setIfInBounds i u) := by
  unfold Blk at h ⊢
  simp [World.setCell, Array.getElem?_modify, h]
theorem below_setRow' {B g : Nat} {w0 w : World} (hb : Below B w0 w) (hBg : B ≤ g) (cs : Array Value) : Below B w0 (w.setRow g cs) := below_setRow hb hBg cs
section
variable {P : Program} {fn : Func} {R : Ending → World → Prop} {a : Act} {w : World}
/-- 'return x', x a named result that lies in memory. -/
theorem bodyPost_cell {p : Tmp} {ty : TypeId} (h : fn.results = #[.cell p ty]) (hd : a.defers = []) {g : Nat} {t : TypeId} {cs : Array Value} {fs : Array Field} (hp : a.tmps.getD p undef = .pointer (some ⟨g, 0, none⟩)) (hg : Blk w g t cs)
    (hu : P.underlying ty = some (.struct fs)) (hi : (P.info? ty).map (·.size) = some cs.size) (hR : R (.returned (.agg cs)) w) : bodyPost P fn R .ret a w :=
  bodyPost_ret (results_cell_row h a.tmps w g t cs (0, 0) _ hp hg hu rfl hi) hd hR
theorem bodyPost_cell2 {p u : Tmp} {ty : TypeId} (h : fn.results = #[.cell p ty, .tmp u]) (hd : a.defers = []) {g : Nat} {t : TypeId} {cs : Array Value} {fs : Array Field} (hp : a.tmps.getD p undef = .pointer (some ⟨g, 0, none⟩)) (hg : Blk w g t cs)
    (hu : P.underlying ty = some (.struct fs)) (hi : (P.info? ty).map (·.size) = some cs.size) (hR : R (.returned (.tuple #[.agg cs, a.tmps.getD u undef])) w) : bodyPost P fn R .ret a w := by
  refine bodyPost_ret ?_ hd hR
  rw [results_cell_tmp h, hp]
  simp only [asAddr, Sem.run_pure, Result.andThen_ok]
  rw [run_loadVar_row w g t ty cs (0, 0) _ hg hu rfl hi]
  rfl
end

/-! ### the walk stands still ahead of an operation of a kind -/
section
variable {P : Program} {ops : Array Oper} {rest : List Oper} {a : Act} {Q : Exit → Act → World → Prop} {w : World} {dst : Option Tmp} {ty0 : TypeId} {pos : String} {after : Array Edge}
theorem Held.store (ty : TypeId) {x y : Operand} (h : Held (wpList P ops Q ({ dst := dst, op := .store ty x y, type := ty0, pos := pos, after := after, guard := none } :: rest) a w)) :
    wpList P ops Q ({ dst := dst, op := .store ty x y, type := ty0, pos := pos, after := after, guard := none } :: rest) a w := h
theorem Held.load (ty : TypeId) {x : Operand} (h : Held (wpList P ops Q ({ dst := dst, op := .load ty x, type := ty0, pos := pos, after := after, guard := none } :: rest) a w)) :
    wpList P ops Q ({ dst := dst, op := .load ty x, type := ty0, pos := pos, after := after, guard := none } :: rest) a w := h
theorem Held.copy {args : Array Operand} {ats : Array TypeId} (h : Held (wpList P ops Q ({ dst := dst, op := .call { callee := .builtin .copy, args := args, argTypes := ats }, type := ty0, pos := pos, after := after, guard := none } :: rest) a w)) :
    wpList P ops Q ({ dst := dst, op := .call { callee := .builtin .copy, args := args, argTypes := ats }, type := ty0, pos := pos, after := after, guard := none } :: rest) a w := h
theorem grownBy_setRow (w : World) (g : Nat) (cs : Array Value) : w.grownBy (w.setRow g cs) (some g) :=
  ⟨rfl, rfl, rfl, by simp, fun k _ hk => setRow_other w g k cs (fun e => hk (by rw [e]))⟩
/-- '*p = v', v a whole struct: the world behind it is a letter. -/
theorem held_store_row {ty : TypeId} {x y : Operand} {g : Nat} {cells : Array Value} {t : TypeId} {old : Array Value} (hg : Blk w g t old) (hi : (P.info? ty).map (·.size) = some cells.size)
    (hx : a.eval x = .pointer (some ⟨g, 0, none⟩)) (hy : a.eval y = .agg cells) (hold : old.size = cells.size) (h1 : cells.all (·.oneCell') = true)
    (h : ∀ w', Blk w' g t cells → w.grownBy w' (some g) → w'.heap.size = w.heap.size → wpList P ops Q rest (a.put dst undef) w') :
    Held (wpList P ops Q ({ dst := dst, op := .store ty x y, type := ty0, pos := pos, after := after, guard := none } :: rest) a w) :=
  held (wpList_store_row rfl ty x y rfl g cells hx hy t old hg hi hold h1 (h _ (hg.setRow cells) (grownBy_setRow w g cells) (by simp)))
/-- .. into a variable that was made just before. -/
theorem held_store_new {W : World} {ty : TypeId} {x y : Operand} {cells : Array Value} {t : TypeId} {old : Array Value} (hi : (P.info? ty).map (·.size) = some cells.size)
    (hx : a.eval x = .pointer (some ⟨W.heap.size, 0, none⟩)) (hy : a.eval y = .agg cells) (hold : old.size = cells.size) (h1 : cells.all (·.oneCell') = true)
    (h : ∀ w', Blk w' W.heap.size t cells → Below W.heap.size W w' → w'.heap.size = W.heap.size + 1 → wpList P ops Q rest (a.put dst undef) w') :
    Held (wpList P ops Q ({ dst := dst, op := .store ty x y, type := ty0, pos := pos, after := after, guard := none } :: rest) a (W.alloc (.cells old t))) :=
  held_store_row (Blk.new W t old) hi hx hy hold h1 fun w' hk hg hs => h w' hk (((Below.refl _ W).alloc (Nat.le_refl _) _).grown hg (by simp) (fun k hk' => by simp at hk'; omega)) (by rw [hs]; simp)
theorem held_load_row {ty : TypeId} {x : Operand} {g : Nat} {t : TypeId} {cs : Array Value} {fs : Array Field} (hg : Blk w g t cs) (hu : P.underlying ty = some (.struct fs)) (hi : (P.info? ty).map (·.size) = some cs.size)
    (hx : a.eval x = .pointer (some ⟨g, 0, none⟩)) (h : wpList P ops Q rest (a.put dst (.agg cs)) w) :
    Held (wpList P ops Q ({ dst := dst, op := .load ty x, type := ty0, pos := pos, after := after, guard := none } :: rest) a w) :=
  held (wpList_load_row rfl ty x rfl g hx t cs (0, 0) _ hg hu rfl hi h)
end

section
variable {P : Program} {ops : Array Oper} {rest : List Oper} {a : Act} {Q : Exit → Act → World → Prop} {w : World} {dst : Option Tmp} {ty0 : TypeId} {pos : String} {after : Array Edge} {gd : Nat × Bool}
/-- The same behind a guard. -/
theorem Held.loadg (ty : TypeId) {x : Operand} (h : Held (wpList P ops Q ({ dst := dst, op := .load ty x, type := ty0, pos := pos, after := after, guard := some gd } :: rest) a w)) :
    wpList P ops Q ({ dst := dst, op := .load ty x, type := ty0, pos := pos, after := after, guard := some gd } :: rest) a w := h
theorem held_loadg_row {ty : TypeId} {x : Operand} {g : Nat} {t : TypeId} {cs : Array Value} {fs : Array Field} (hg : Blk w g t cs) (hu : P.underlying ty = some (.struct fs)) (hi : (P.info? ty).map (·.size) = some cs.size)
    (hw : yielded ops a.tmps gd.1 = some gd.2)
    (hx : a.eval x = .pointer (some ⟨g, 0, none⟩)) (h : wpList P ops Q rest (a.put dst (.agg cs)) w) :
    Held (wpList P ops Q ({ dst := dst, op := .load ty x, type := ty0, pos := pos, after := after, guard := some gd } :: rest) a w) :=
  held (BigFrame.wpList_want (by simp [Region.wanted, hw]) fun _ hK => wp_load_row ty x rfl g hx t cs (0, 0) _ hg hu rfl hi (hK _ _ h))
end
end Go.Cv
/- More laws of our own: strings indexed and cut, blocks stored into: no program text. -/
namespace Go.Cv
open Go.RowKit

theorem S_get (l : List UInt8) (i : Nat) (h : i < l.length) : (S l)[i]? = some (l.getD i 0) := by
  have hs : i < (S l).size := by rw [S_size]; exact h
  rw [getElem?_pos (S l) i hs]
  show some (l.toArray[i]'_) = _
  simp only [List.getD, List.getElem?_eq_getElem h, Option.getD_some]
  rfl
section
variable {P : Program}
/-- 's[i]'. -/
theorem run_index_S (w : World) (t : TypeId) (ht : P.underlying t = some .string) (l : List UInt8) (k : IntKind) (x : Int) (i : Nat) (hx : x = i) (h : i < l.length) :
    (Instr.index t (.string (S l)) (.int k x)).run P w = .ok (.int .u8 (l.getD i 0).toNat) w := by
  subst hx
  simp [Instr.index, asIntOf, run_underlying ht, S_get l i h]
theorem S_extract (l : List UInt8) (a b : Nat) : (S l).extract a b = S ((l.take b).drop a) := by
  have h : ((S l).extract a b).data = (S ((l.take b).drop a)).data := by
    rw [ByteArray.data_extract]
    simp [S, List.drop_take]
  cases hh : (S l).extract a b with
  | mk d =>
    rw [hh] at h
    simp only [S] at h ⊢
    rw [h]
end

/-! ### a row with a store -/
theorem below_of_grown {B : Nat} {w0 w w' : World} {g : Nat} (hb : Below B w0 w) (hg : w.grownBy w' (some g)) (hB : B ≤ w.heap.size) (hBg : B ≤ g) : Below B w0 w' :=
  hb.grown hg hB (fun k hk => by simp at hk; omega)
theorem grown_set (w : World) (g i : Nat) (u : Value) : w.grownBy (w.setCell ⟨g, i, none⟩ u) (some g) :=
  ⟨rfl, rfl, rfl, by simp, fun k _ hk => Below.heap_setCell _ _ _ _ (fun e => hk (by rw [e]))⟩
theorem grown_trans {w w1 w2 : World} {row : Option Nat} (h1 : w.grownBy w1 row) (h2 : w1.grownBy w2 row) : w.grownBy w2 row :=
  ⟨h2.os.trans h1.os, h2.tape.trans h1.tape, h2.output.trans h1.output, Nat.le_trans h1.size h2.size,
    fun k hk hne => (h2.block k (Nat.lt_of_lt_of_le hk h1.size) hne).trans (h1.block k hk hne)⟩
theorem grown_of_below {w w' : World} (h : Below w.heap.size w w') (row : Option Nat) : w.grownBy w' row := ⟨h.os, h.tape, h.output, h.size, fun k hk _ => h.block k hk⟩
end Go.Cv
/- More laws of the walks. -/
namespace Go.Cv
open Go.RowKit
set_option linter.unusedVariables false
section
variable {P : Program} {ops : Array Oper} {rest : List Oper} {a : Act} {Q : Exit → Act → World → Prop} {w : World} {dst : Option Tmp} {ty0 : TypeId} {pos : String} {after : Array Edge}
/-- A store into a variable that was made just before, its number as the walk writes it. -/
theorem held_store_at {W : World} {g : Nat} (hW : W.heap.size = g) {ty : TypeId} {x y : Operand} {cells : Array Value} {t : TypeId} {old : Array Value} (hi : (P.info? ty).map (·.size) = some cells.size)
    (hx : a.eval x = .pointer (some ⟨g, 0, none⟩)) (hy : a.eval y = .agg cells) (hold : old.size = cells.size) (h1 : cells.all (·.oneCell') = true)
    (h : ∀ w', Blk w' g t cells → Below W.heap.size W w' → w'.heap.size = g + 1 → wpList P ops Q rest (a.put dst undef) w') :
    Held (wpList P ops Q ({ dst := dst, op := .store ty x y, type := ty0, pos := pos, after := after, guard := none } :: rest) a (W.alloc (.cells old t))) := by
  subst hW
  exact held_store_new hi hx hy hold h1 h
end
theorem own_made0 (w : World) (e : Nat) : Own (w.alloc (.cells #[] e)) w.heap.size 1 (some ⟨w.heap.size, 0, none⟩) 0 0 [] := Own.empty _ _ _ _
theorem below_alloc (w : World) (o : Obj) : Below w.heap.size w (w.alloc o) := (Below.refl _ w).alloc (Nat.le_refl _) o
theorem below_drew (w : World) : Below w.heap.size w w.drew := (Below.refl _ w).drew
/-- What was appended to a row that was made just before. -/
theorem below_append_new {w w1 : World} {o : Obj} (hg : (w.alloc o).grownBy w1 (some w.heap.size)) : Below w.heap.size w w1 :=
  below_of_grown (below_alloc w o) hg (by simp) (Nat.le_refl _)
theorem Blk.drew {w : World} {g : Nat} {t : TypeId} {cs : Array Value} (h : Blk w g t cs) : Blk w.drew g t cs := h
end Go.Cv
/- Laws of the walks: copy. -/
namespace Go.Cv
open Go.RowKit
set_option linter.unusedVariables false
/-- A run of cells laid into a row of the call's own. -/
theorem Own.setCells {w : World} {B n c b o : Nat} {xs : List Value} (h : Own w B 1 (some ⟨b, o, none⟩) n c xs) (ys : List Value) (k : Nat) (hk : k + ys.length ≤ n) :
    Own (w.setCells b (o + k) ys) B 1 (some ⟨b, o, none⟩) n c (xs.take k ++ (ys ++ xs.drop (k + ys.length))) := by
  obtain ⟨h1, h2, h3, h0 | ⟨b', o', hA, hB, hc, hs, hf⟩⟩ := h
  · have hn : n = 0 := by omega
    subst hn
    have hk0 : k = 0 := by omega
    have hy : ys = [] := List.eq_nil_of_length_eq_zero (by omega)
    subst hk0 hy h0
    have hxs : xs = [] := List.eq_nil_of_length_eq_zero (by simpa using h1)
    subst hxs
    exact Own.empty _ _ _ _
  · injection hA with hA
    injection hA with hb ho
    subst hb ho
    rw [Nat.mul_one] at h1
    have hin : ∀ j, j < ys.length → (w.cell? ⟨b, o + k + j, none⟩).isSome = true := fun j hj => by
      rw [Nat.add_assoc]; exact hs _ (by omega)
    have htk : (xs.take k).length = k := by simp; omega
    refine ⟨by simp; omega, h2, h3, .inr ⟨b, o, rfl, hB, fun j v hj => ?_, fun j hj => ?_, fun j hj => ?_⟩⟩
    · by_cases hj1 : k ≤ j ∧ j < k + ys.length
      · have hh := World.cell?_setCells_in b ys (o + k) w hin (j - k) (by omega)
        rw [show o + k + (j - k) = o + j by omega] at hh
        rw [List.getElem?_append_right (by simp; omega), List.getElem?_append_left (by simp; omega)] at hj
        rw [hh, ← hj, List.getElem?_eq_getElem (by omega)]
        simp [Nat.min_eq_left (show k ≤ xs.length by omega)]
      · rw [World.cell?_setCells_out b ys _ w _ (fun _ _ => by simp only; omega)]
        refine hc j v ?_
        by_cases hj2 : j < k
        · rw [List.getElem?_append_left (by simp; omega), List.getElem?_take_of_lt hj2] at hj
          exact hj
        · rw [List.getElem?_append_right (by rw [htk]; omega), List.getElem?_append_right (by rw [htk]; omega), List.getElem?_drop, htk] at hj
          rw [← hj]
          congr 1
          omega
    · exact World.isSome_setCells b ys _ w _ (hs j hj)
    · rw [World.frozen?_setCells]; exact hf j hj
section
variable {P : Program} {ops : Array Oper} {rest : List Oper} {o : Oper} {a : Act} {Q : Exit → Act → World → Prop} {w : World}
/-- 'copy(d, s)', d a row of the call's own that is filled whole. -/
theorem held_copy_all (hgd : o.guard = none) (d s : Operand) (t u : TypeId) (ho : o.op = .call { callee := .builtin .copy, args := #[d, s], argTypes := #[t, u] })
    (B e : Nat) (ht : P.underlying t = some (.slice e)) (hi : (P.info? e).map (·.size) = some 1) {b o' n c m : Nat} {xs ys : List Value} {A : Option Addr} {m' : Nat}
    (hd : a.eval d = .slice (some ⟨b, o', none⟩) n c) (hs : a.eval s = .slice A m m') (hown : Own w B 1 (some ⟨b, o', none⟩) n c xs) (hm : m = n) (hy : ys.length = n) (hr : Rd w A ys) (h1 : ∀ v ∈ ys, v.oneCell' = true)
    (h : ∀ w', Own w' B 1 (some ⟨b, o', none⟩) n c ys → w.grownBy w' (some b) → wpList P ops Q rest (a.put o.dst (goInt n)) w') :
    Held (wpList P ops Q (o :: rest) a w) := by
  subst hm
  refine held (wpList_plain hgd fun K hK => ?_)
  have hlx := hown.1
  rw [Nat.mul_one] at hlx
  by_cases h0 : m = 0
  · subst h0
    have hy0 : ys = [] := List.eq_nil_of_length_eq_zero hy
    have hx0 : xs = [] := List.eq_nil_of_length_eq_zero hlx
    subst hy0 hx0
    have hrun := run_copy_none (P := P) w t u o.type e (some ⟨b, o', none⟩) A 0 c 0 m' ht hi rfl
    unfold Oper.wp
    simp [execOp, ho, resolve, invoke, builtin, hd, hs, hrun, Result.andThen]
    exact hK _ _ (h w hown (World.grownBy.refl w _))
  · rcases hr with hr | ⟨b2, o2, rfl, hr⟩
    · rw [hr] at hy; simp at hy; omega
    have hcs : ∀ j, j < ys.length → (w.cell? ⟨b, o' + j, none⟩).isSome = true := fun j hj => by
      obtain ⟨v, _, hc, _⟩ := hown.at_ j (by omega)
      rw [hc]; rfl
    have hfs : ∀ j, j < ys.length → w.frozen? ⟨b, o' + j, none⟩ = false := fun j hj => by
      obtain ⟨v, _, _, hf⟩ := hown.at_ j (by omega)
      exact hf
    have hrun := run_copy_cells (P := P) w t u o.type e b o' m c ⟨b2, o2, none⟩ m m' ys ht hi (by simp [hy]) (fun j v hj => by rw [add_lit]; exact hr j v hj) hcs hfs h1
    have hO := hown.setCells ys 0 (by omega)
    have hd0 : xs.drop (0 + ys.length) = [] := List.drop_eq_nil_of_le (by omega)
    rw [hd0] at hO
    simp at hO
    rw [hy] at hrun
    unfold Oper.wp
    simp [execOp, ho, resolve, invoke, builtin, hd, hs, hrun, Result.andThen]
    exact hK _ _ (h _ hO (grownBy_setCells w b o' ys))
end
end Go.Cv
/- Laws of the walks: copy into a part of a row of the call's own. -/
namespace Go.Cv
open Go.RowKit
set_option linter.unusedVariables false
section
variable {P : Program} {ops : Array Oper} {rest : List Oper} {o : Oper} {a : Act} {Q : Exit → Act → World → Prop} {w : World}
/-- 'copy(d, s)', d beginning at place k of a row of the call's own; 'ys' are the cells that go over. -/
theorem held_copy_part (hgd : o.guard = none) (d s : Operand) (t u : TypeId) (ho : o.op = .call { callee := .builtin .copy, args := #[d, s], argTypes := #[t, u] })
    (B e : Nat) (ht : P.underlying t = some (.slice e)) (hi : (P.info? e).map (·.size) = some 1) {b o' k p n c n' c' m m' : Nat} {xs ys : List Value} {A : Option Addr} (hp : p = o' + k)
    (hd : a.eval d = .slice (some ⟨b, p, none⟩) n' c') (hs : a.eval s = .slice A m m') (hown : Own w B 1 (some ⟨b, o', none⟩) n c xs) (hy : ys.length = Nat.min m n') (hk : k + ys.length ≤ n) (h0 : 0 < ys.length) (hr : Rd w A ys) (h1 : ∀ v ∈ ys, v.oneCell' = true)
    (h : ∀ w', Own w' B 1 (some ⟨b, o', none⟩) n c (xs.take k ++ (ys ++ xs.drop (k + ys.length))) → w.grownBy w' (some b) → wpList P ops Q rest (a.put o.dst (goInt ys.length)) w') :
    Held (wpList P ops Q (o :: rest) a w) := by
  subst hp
  refine held (wpList_plain hgd fun K hK => ?_)
  rcases hr with hr | ⟨b2, o2, rfl, hr⟩
  · rw [hr] at h0; simp at h0
  have hcs : ∀ j, j < ys.length → (w.cell? ⟨b, o' + k + j, none⟩).isSome = true := fun j hj => by
    obtain ⟨v, _, hc, _⟩ := hown.at_ (k + j) (by omega)
    rw [Nat.add_assoc, hc]; rfl
  have hfs : ∀ j, j < ys.length → w.frozen? ⟨b, o' + k + j, none⟩ = false := fun j hj => by
    obtain ⟨v, _, _, hf⟩ := hown.at_ (k + j) (by omega)
    rw [Nat.add_assoc]; exact hf
  have hrun := run_copy_cells (P := P) w t u o.type e b (o' + k) n' c' ⟨b2, o2, none⟩ m m' ys ht hi hy (fun j v hj => by rw [add_lit]; exact hr j v hj) hcs hfs h1
  have hO := hown.setCells ys k hk
  unfold Oper.wp
  simp [execOp, ho, resolve, invoke, builtin, hd, hs, hrun, Result.andThen]
  exact hK _ _ (h _ hO (grownBy_setCells w b (o' + k) ys))
end
end Go.Cv
/- What a reader of bytes holds, and what a call may have turned: no program text. -/
namespace Go.Cv
open Go.RowKit
set_option linter.unusedVariables false
/-- Of the rows that were there, only those of L may be others. -/
structure Tch (L : List Nat) (w w' : World) : Prop where
  os : w'.os = w.os
  tape : w'.tape = w.tape
  output : w'.output = w.output
  size : w.heap.size ≤ w'.heap.size
  block : ∀ k, k < w.heap.size → k ∉ L → w'.heap[k]? = w.heap[k]?
theorem Tch.refl (L : List Nat) (w : World) : Tch L w w := ⟨rfl, rfl, rfl, Nat.le_refl _, fun _ _ _ => rfl⟩
theorem Tch.trans {L : List Nat} {w w1 w2 : World} (h1 : Tch L w w1) (h2 : Tch L w1 w2) : Tch L w w2 :=
  ⟨h2.os.trans h1.os, h2.tape.trans h1.tape, h2.output.trans h1.output, Nat.le_trans h1.size h2.size,
    fun k hk hn => (h2.block k (Nat.lt_of_lt_of_le hk h1.size) hn).trans (h1.block k hk hn)⟩
theorem Tch.more {L M : List Nat} {w w' : World} (h : Tch L w w') (hs : ∀ k ∈ L, k ∈ M ∨ w.heap.size ≤ k) : Tch M w w' :=
  ⟨h.os, h.tape, h.output, h.size, fun k hk hn => h.block k hk (fun hm => by rcases hs k hm with h' | h' <;> first | exact hn h' | omega)⟩
/-- The second step turns rows that the first one made, or some of M. -/
theorem Tch.then {L M : List Nat} {w w1 w2 : World} (h1 : Tch M w w1) (h2 : Tch L w1 w2) (hs : ∀ k ∈ L, k ∈ M ∨ w.heap.size ≤ k) : Tch M w w2 :=
  ⟨h2.os.trans h1.os, h2.tape.trans h1.tape, h2.output.trans h1.output, Nat.le_trans h1.size h2.size,
    fun k hk hn => (h2.block k (Nat.lt_of_lt_of_le hk h1.size) (fun hm => by rcases hs k hm with h' | h' <;> first | exact hn h' | omega)).trans (h1.block k hk hn)⟩
theorem Tch.below {w w' : World} (h : Below w.heap.size w w') (L : List Nat) : Tch L w w' := ⟨h.os, h.tape, h.output, h.size, fun k hk _ => h.block k hk⟩
theorem Tch.toBelow {w w' : World} {B : Nat} (h : Tch [] w w') (hB : B ≤ w.heap.size) : Below B w w' := ⟨h.os, h.tape, h.output, h.size, fun k hk => h.block k (by omega) (by simp)⟩
theorem Tch.grown {w w' : World} {row : Option Nat} (h : w.grownBy w' row) : Tch row.toList w w' := ⟨h.os, h.tape, h.output, h.size, fun k hk hn => h.block k hk (fun e => hn (by rw [← e]; simp))⟩
theorem Tch.toGrown {w w' : World} {g : Nat} (h : Tch [g] w w') : w.grownBy w' (some g) := ⟨h.os, h.tape, h.output, h.size, fun k hk hn => h.block k hk (by simpa using hn)⟩
theorem Tch.set (w : World) (g i : Nat) (u : Value) : Tch [g] w (w.setCell ⟨g, i, none⟩ u) := Tch.grown (grown_set w g i u)
theorem Tch.alloc (w : World) (o : Obj) : Tch [] w (w.alloc o) := Tch.below (below_alloc w o) []
theorem Tch.drew (w : World) : Tch [] w w.drew := Tch.below (below_drew w) []
theorem Blk.tch {w w' : World} {L : List Nat} {g : Nat} {t : TypeId} {cs : Array Value} (h : Blk w g t cs) (ht : Tch L w w') (hn : g ∉ L) : Blk w' g t cs := (ht.block g h.lt hn).trans h
theorem cell_of_heap {w w' : World} {a : Addr} (h : w'.heap[a.block]? = w.heap[a.block]?) : w'.cell? a = w.cell? a := by
  simp only [World.cell?, h]
theorem Tch.cell {w w' : World} {L : List Nat} {a : Addr} {v : Value} (ht : Tch L w w') (h : w.cell? a = some v) (hn : a.block ∉ L) : w'.cell? a = some v := by
  rw [cell_of_heap (ht.block a.block (block_lt h) hn)]; exact h
theorem Rd.tch {w w' : World} {L : List Nat} {b o : Nat} {xs : List Value} (h : Rd w (some ⟨b, o, none⟩) xs) (ht : Tch L w w') (hn : b ∉ L) : Rd w' (some ⟨b, o, none⟩) xs := by
  rcases h with h | ⟨b', o', hA, h⟩
  · exact .inl h
  · injection hA with hA
    injection hA with hb' ho'
    subst hb' ho'
    exact .inr ⟨b, o, rfl, fun j v hj => ht.cell (h j v hj) hn⟩
/-- The variable at p holds the bytes l, which lie in the row b. -/
def Str (w : World) (t p b : Nat) (l : List UInt8) : Prop :=
  ∃ o c, Blk w p t #[.slice (some ⟨b, o, none⟩) l.length c] ∧ l.length ≤ c ∧ Rd w (some ⟨b, o, none⟩) (vs l)
theorem Str.tch {w w' : World} {L : List Nat} {t p b : Nat} {l : List UInt8} (h : Str w t p b l) (ht : Tch L w w') (hp : p ∉ L) (hb : b ∉ L) : Str w' t p b l := by
  obtain ⟨o, c, h1, h2, h3⟩ := h
  exact ⟨o, c, h1.tch ht hp, h2, h3.tch ht hb⟩
theorem Str.lt {w : World} {t p b : Nat} {l : List UInt8} (h : Str w t p b l) : p < w.heap.size := by obtain ⟨o, c, h1, _⟩ := h; exact h1.lt
theorem Str.start {w : World} {t b o c : Nat} {l : List UInt8} (hr : Rd w (some ⟨b, o, none⟩) (vs l)) (hc : l.length ≤ c) (hb : b < w.heap.size) : Str (w.alloc (.cells #[.slice (some ⟨b, o, none⟩) l.length c] t)) t w.heap.size b l :=
  ⟨o, c, Blk.new _ _ _, hc, hr.tch (Tch.alloc _ _) (by simp)⟩
theorem Str.alloc {w : World} {t p b : Nat} {l : List UInt8} (h : Str w t p b l) (o : Obj) : Str (w.alloc o) t p b l := h.tch (Tch.alloc _ _) (by simp) (by simp)
theorem Str.cell {w : World} {t p b : Nat} {l : List UInt8} (h : Str w t p b l) : ∃ o c, w.cell? ⟨p, 0, none⟩ = some (.slice (some ⟨b, o, none⟩) l.length c) ∧ l.length ≤ c ∧ Rd w (some ⟨b, o, none⟩) (vs l) := by
  obtain ⟨o, c, hk, hc, hr⟩ := h
  have k0 := hk.cell 0
  exact ⟨o, c, by simpa using k0, hc, hr⟩
end Go.Cv
/- Laws of the walks: append as one step of a region that draws its order. -/
namespace Go.Cv
open Go.RowKit
set_option linter.unusedVariables false
/-- 'append(s, x...)', one step. -/
theorem step_append {P : Program} {ops : Array Oper} {o : Oper} {a : Act} {w : World} {K : Act → World → Prop} {Q : Exit → Act → World → Prop} {E : Prop}
    (hgd : o.guard = none) (s x : Operand) (t u : TypeId) (ho : o.op = .call { callee := .builtin .append, args := #[s, x], argTypes := #[t, u] })
    (B e : Nat) (z : Value) (sz by_ : Nat) (ht : P.underlying t = some (.slice e)) (hu : P.underlying u = some (.slice e) ∨ P.underlying u = some .string)
    (hi : (P.info? e).map (fun i => (i.zero, i.size, i.bytes)) = some (some z, sz, by_)) (hzs : z.cells.size = sz) (hsz : 0 < sz)
    {A : Option Addr} {n c m : Nat} {xs ys : List Value} {xv : Value} (hs : a.eval s = .slice A n c) (hx : a.eval x = xv) (hown : Own w B sz A n c xs) (hsrc : Src w sz m xv ys)
    (hbytes : (n + m) * by_ ≤ 140737488355328) (h63 : n + m ≤ maxLen) (hB : B ≤ w.heap.size)
    (h : ∀ A' c' w', Own w' B sz A' (n + m) c' (xs ++ ys) → w.grownBy w' (A.map (·.block)) → ((A' = A ∧ c' = c) ∨ A' = some ⟨w.heap.size, 0, none⟩) → K (a.put o.dst (.slice A' (n + m) c')) w') :
    if Region.wanted o (yielded ops a.tmps) = true then Oper.wp P o a w K Q else E := by
  have hw : Region.wanted o (yielded ops a.tmps) = true := by simp [Region.wanted, hgd]
  rw [if_pos hw]
  obtain ⟨i, hi1, hi2, hi3, hi4⟩ := info_parts hi
  obtain ⟨A', c', w', hr, h2, h3, h4⟩ := run_append (P := P) w B t u o.type e i z sz by_ ht hu hi1 hi2 hi3 hi4 hzs hsz A n c xs hown xv m ys hsrc hbytes h63 hB
  unfold Oper.wp execOp
  simp only [ho, resolve, invoke, builtin, Sem.run_bind, Sem.run_pure, Result.andThen_ok, List.map_toArray, List.map_cons, List.map_nil, hs, hx, hr]
  exact h A' c' w' h2 h3 h4
/-- How many bytes the reader at p still has. -/
def leftAt (p : Nat) (w : World) : Nat := match w.cell? ⟨p, 0, none⟩ with | some (.slice _ n _) => n | _ => 0
theorem Str.left {w : World} {t p b : Nat} {l : List UInt8} (h : Str w t p b l) : leftAt p w = l.length := by
  obtain ⟨o, c, h1, _⟩ := h.cell
  simp [leftAt, h1]
theorem Own.tch {w w' : World} {L : List Nat} {B sz n c : Nat} {A : Option Addr} {xs : List Value} (h : Own w B sz A n c xs) (ht : Tch L w w') (hn : A = none ∨ ∃ a, A = some ⟨a, 0, none⟩ ∧ a ∉ L) : Own w' B sz A n c xs :=
  h.mono fun a ha hlt => by
    rcases hn with rfl | ⟨b, rfl, hb⟩
    · simp at ha
    · simp at ha
      have hh := ht.block a.block hlt (by rw [← ha]; exact hb)
      exact ⟨cell_of_heap hh, by simp only [World.frozen?, hh]⟩
theorem rd_pair (W : World) (e : TypeId) (u v : Value) : Rd (W.alloc (.cells #[u, v] e)) (some ⟨W.heap.size, 0, none⟩) [u, v] := by
  refine .inr ⟨_, _, rfl, fun k x hk => ?_⟩
  match k with
  | 0 => simp at hk; subst hk; simp
  | 1 => simp at hk; subst hk; simp
  | k + 2 => simp at hk
theorem rd_single (W : World) (e : TypeId) (u : Value) : Rd (W.alloc (.cells #[u] e)) (some ⟨W.heap.size, 0, none⟩) [u] := by
  refine .inr ⟨_, _, rfl, fun k x hk => ?_⟩
  match k with
  | 0 => simp at hk; subst hk; simp
  | k + 1 => simp at hk
theorem rd_new (W : World) (e : TypeId) (cs : Array Value) : Rd (W.alloc (.cells cs e)) (some ⟨W.heap.size, 0, none⟩) cs.toList := by
  refine .inr ⟨_, _, rfl, fun j v hj => ?_⟩
  have h := (Blk.new W e cs).cell (0 + j)
  rw [h, Nat.zero_add, ← Array.getElem?_toList]
  exact hj
/-- A row of the call's own, at or above base. -/
def Hi (base : Nat) (A : Option Addr) : Prop := A = none ∨ ∃ a, A = some ⟨a, 0, none⟩ ∧ base ≤ a
theorem Hi.away {base : Nat} {A : Option Addr} {L : List Nat} (h : Hi base A) (hL : ∀ k ∈ L, k < base) : A = none ∨ ∃ a, A = some ⟨a, 0, none⟩ ∧ a ∉ L := by
  rcases h with h | ⟨a, h, ha⟩
  · exact .inl h
  · exact .inr ⟨a, h, fun hm => by have := hL a hm; omega⟩
theorem Hi.notin {base g : Nat} {A : Option Addr} (h : Hi base A) (hg : g < base) : g ∉ (A.map (·.block)).toList := by
  rcases h with rfl | ⟨a, rfl, ha⟩
  · simp
  · simp; omega
theorem Hi.inn {base : Nat} {A : Option Addr} (h : Hi base A) : ∀ k ∈ (A.map (·.block)).toList, base ≤ k := by
  rcases h with rfl | ⟨a, rfl, ha⟩
  · simp
  · simp; omega
theorem Hi.new {base b c c' : Nat} {A A' : Option Addr} (h : Hi base A) (hn : (A' = A ∧ c' = c) ∨ A' = some ⟨b, 0, none⟩) (hb : base ≤ b) : Hi base A' := by
  rcases hn with ⟨rfl, _⟩ | rfl
  · exact h
  · exact .inr ⟨_, rfl, hb⟩
theorem Hi.apart {base g : Nat} {A : Option Addr} (h : Hi base A) (hg : g < base) : A.map (·.block) ≠ some g ∨ A = none := by
  rcases h with rfl | ⟨a, rfl, ha⟩
  · exact .inr rfl
  · exact .inl (by simp; omega)
end Go.Cv
/- Laws of the walks: copy into a part of a row of the call's own, of no byte too. -/
namespace Go.Cv
open Go.RowKit
set_option linter.unusedVariables false
section
variable {P : Program} {ops : Array Oper} {rest : List Oper} {o : Oper} {a : Act} {Q : Exit → Act → World → Prop} {w : World}
theorem held_copy_any (hgd : o.guard = none) (d s : Operand) (t u : TypeId) (ho : o.op = .call { callee := .builtin .copy, args := #[d, s], argTypes := #[t, u] })
    (B e : Nat) (ht : P.underlying t = some (.slice e)) (hi : (P.info? e).map (·.size) = some 1) {b o' k p n c n' c' m m' : Nat} {xs ys : List Value} {A : Option Addr} (hp : p = o' + k)
    (hd : a.eval d = .slice (some ⟨b, p, none⟩) n' c') (hs : a.eval s = .slice A m m') (hown : Own w B 1 (some ⟨b, o', none⟩) n c xs) (hy : ys.length = Nat.min m n') (hk : k + ys.length ≤ n) (hr : Rd w A ys) (h1 : ∀ v ∈ ys, v.oneCell' = true)
    (h : ∀ w', Own w' B 1 (some ⟨b, o', none⟩) n c (xs.take k ++ (ys ++ xs.drop (k + ys.length))) → w.grownBy w' (some b) → wpList P ops Q rest (a.put o.dst (goInt ys.length)) w') :
    Held (wpList P ops Q (o :: rest) a w) := by
  by_cases h0 : 0 < ys.length
  · exact held_copy_part hgd d s t u ho B e ht hi hp hd hs hown hy hk h0 hr h1 h
  have e0 : ys = [] := List.eq_nil_of_length_eq_zero (by omega)
  subst e0
  refine held (wpList_plain hgd fun K hK => ?_)
  have hrun := run_copy_none (P := P) w t u o.type e (some ⟨b, p, none⟩) A n' c' m m' ht hi hy.symm
  unfold Oper.wp
  simp [execOp, ho, resolve, invoke, builtin, hd, hs, hrun, Result.andThen]
  refine hK _ _ (h w ?_ (World.grownBy.refl w _))
  simpa using hown
end
end Go.Cv
/- The law of append, telling besides that a new row is made only where there was no room. -/
namespace Go.Cv
open Go.RowKit
set_option linter.unusedVariables false
theorem run_append2 {P : Program} (w : World) (B : Nat) (t u ty e : TypeId) (i : TypeInfo) (z : Value) (sz by_ : Nat) (ht : P.underlying t = some (.slice e)) (hu : P.underlying u = some (.slice e) ∨ P.underlying u = some .string) (hi : P.info? e = some i) (hz : i.zero = some z)
    (hsize : i.size = sz) (hby : i.bytes = by_) (hzs : z.cells.size = sz) (hsz : 0 < sz)
    (A : Option Addr) (n c : Nat) (xs : List Value) (hown : Own w B sz A n c xs) (x : Value) (m : Nat) (ys : List Value) (hx : Src w sz m x ys)
    (hbytes : (n + m) * by_ ≤ 140737488355328) (h63 : n + m ≤ maxLen) (hB : B ≤ w.heap.size) :
    ∃ A' c' w', (Builtin.append_ #[t, u] ty #[.slice A n c, x]).run P w = .ok (.slice A' (n + m) c') w' ∧ Own w' B sz A' (n + m) c' (xs ++ ys) ∧ w.grownBy w' (A.map (·.block)) ∧
      ((A' = A ∧ c' = c) ∨ (A' = some ⟨w.heap.size, 0, none⟩ ∧ c < n + m)) := by
  subst hsize hby
  have hlen : (xs ++ ys).length = (n + m) * i.size := by rw [List.length_append, hown.1, hx.1, Nat.add_mul]
  have hsmall : n + m ≤ 9223372036854775807 := by simp only [maxLen] at h63; omega
  by_cases hroom : n + m ≤ c
  · have hL := hx.len (P := P)
    have hC := hx.cells (P := P) hsz
    obtain ⟨h1, h2, h3, h0 | ⟨b, o, rfl, hBb, hc, hs, hf⟩⟩ := hown
    · have hn0 : n = 0 := by omega
      have hm0 : m = 0 := by omega
      subst hn0 hm0 h0
      have hxs : xs = [] := List.eq_nil_of_length_eq_zero (by simpa using h1)
      have hys : ys = [] := List.eq_nil_of_length_eq_zero (by simpa using hx.1)
      subst hxs hys
      refine ⟨A, 0, w, ?_, Own.empty w B _ A, World.grownBy.refl w _, .inl ⟨rfl, rfl⟩⟩
      cases A with
      | none => rcases hu with hu | hu <;> simp [Builtin.append_, run_underlying ht, run_underlying hu, sizeOf, typeInfo, hi, hL, hC]
      | some a => rcases hu with hu | hu <;> simp [Builtin.append_, run_underlying ht, run_underlying hu, sizeOf, typeInfo, hi, hL, hC, storeCells]
    · have hlt : n * i.size + m * i.size ≤ c * i.size := by rw [← Nat.add_mul]; exact Nat.mul_le_mul_right _ hroom
      have hst := run_storeCells_cells (P := P) b (o + n * i.size) ys 0 w
        (fun j hj => by rw [hx.1] at hj; rw [Nat.add_zero, Nat.add_assoc]; exact hs _ (by omega))
        (fun j hj => by rw [hx.1] at hj; rw [Nat.add_zero, Nat.add_assoc]; exact hf _ (by omega)) hx.2.1
      rw [Nat.add_zero] at hst
      refine ⟨some ⟨b, o, none⟩, c, w.setCells b (o + n * i.size) ys, ?_, ⟨hlen, hroom, h3, .inr ⟨b, o, rfl, hBb, fun j v hj => ?_, fun j hj => ?_, fun j hj => ?_⟩⟩, grownBy_setCells w b _ ys, .inl ⟨rfl, rfl⟩⟩
      · rcases hu with hu | hu <;> simp [Builtin.append_, run_underlying ht, run_underlying hu, sizeOf, typeInfo, hi, hL, hC, hroom, add_lit, hst]
      · rw [List.getElem?_append] at hj
        split at hj
        · rename_i hjx
          rw [World.cell?_setCells_out b ys _ w _ (fun _ _ => .inl (by simp only; rw [h1] at hjx; omega))]
          exact hc j v hj
        · rename_i hjx
          rw [h1] at hjx hj
          have hjy : j - n * i.size < ys.length := (List.getElem?_eq_some_iff.1 hj).1
          have := World.cell?_setCells_in b ys (o + n * i.size) w (fun k hk => by rw [hx.1] at hk; rw [Nat.add_assoc]; exact hs _ (by omega)) (j - n * i.size) hjy
          rw [show o + n * i.size + (j - n * i.size) = o + j by omega] at this
          rw [this, ← hj, List.getElem?_eq_getElem hjy]
      · by_cases hin : n * i.size ≤ j ∧ j < n * i.size + ys.length
        · have := World.cell?_setCells_in b ys (o + n * i.size) w (fun k hk => by rw [hx.1] at hk; rw [Nat.add_assoc]; exact hs _ (by omega)) (j - n * i.size) (by omega)
          rw [show o + n * i.size + (j - n * i.size) = o + j by omega] at this
          rw [this]; rfl
        · rw [World.cell?_setCells_out b ys _ w _ (fun _ _ => by simp only; omega)]
          exact hs j hj
      · rw [World.frozen?_setCells]; exact hf j hj
  · have hL := hx.len (P := P)
    have hC := hx.drew.cells (P := P) hsz
    have hO : (Builtin.firstCells i.size n (.slice A n c)).run P w.drew = .ok xs.toArray w.drew := Rd.load (w := w.drew) (show Rd w.drew A xs from hown.rd) i.size n n c hown.1 hsz
    have h63' : ¬ (9223372036854775807 < ((n : Int) + (m : Int))) := by omega
    have hfit := growslice_fits (need := n + m) (old := c) (bytes := i.bytes) (by omega) hbytes
    have h48' : ¬ (281474976710656 < Builtin.nextslicecap (n + m) c * i.bytes) := by omega
    have hge := grownCap_ge w (n + m) c e
    have hcm : grownCap w (n + m) c e ≤ maxLen := grownCap_le_maxLen w (n + m) c e h63
    have hsc : (xs.toArray ++ ys.toArray ++ Builtin.zeroCells z.cells (grownCap w (n + m) c e - (n + m))).size = grownCap w (n + m) c e * i.size := by
      simp only [Array.size_append, List.size_toArray, size_zeroCells, hzs, hown.1, hx.1, ← Nat.add_mul]
      congr 1
      omega
    refine ⟨some ⟨w.heap.size, 0, none⟩, grownCap w (n + m) c e, w.drew.alloc (.cells (xs.toArray ++ ys.toArray ++ Builtin.zeroCells z.cells (grownCap w (n + m) c e - (n + m))) e), ?_, ?_, ?_, .inr ⟨rfl, Nat.lt_of_not_le hroom⟩⟩
    · rcases hu with hu | hu <;> simp [Builtin.append_, run_underlying ht, run_underlying hu, sizeOf, typeInfo, zeroValue, hi, hz, hL, hroom, h63', h48', Question.forced, hC, hO, newRow, grownCap] <;> (congr 2; apply Array.ext'; simp [List.append_assoc])
    · refine Own.new w.drew B i.size e (0, 0) _ (n + m) _ _ hlen hge hcm hsc hB (fun j _ h => by simp at h) (fun j v hj => ?_)
      rw [← Array.getElem?_toList]
      simp only [Array.toList_append]
      have hjl : j < (xs ++ ys).length := (List.getElem?_eq_some_iff.1 hj).1
      rw [List.getElem?_append_left hjl]
      exact hj
    · exact ⟨rfl, rfl, rfl, by simp, fun k hk _ => heap_alloc_old w.drew _ hk⟩

section
variable {P : Program} {ops : Array Oper} {rest : List Oper} {o : Oper} {a : Act} {Q : Exit → Act → World → Prop} {w : World}
theorem held_append2 (hgd : o.guard = none) (s x : Operand) (t u : TypeId) (ho : o.op = .call { callee := .builtin .append, args := #[s, x], argTypes := #[t, u] })
    (B e : Nat) (z : Value) (sz by_ : Nat) (ht : P.underlying t = some (.slice e)) (hu : P.underlying u = some (.slice e) ∨ P.underlying u = some .string)
    (hi : (P.info? e).map (fun i => (i.zero, i.size, i.bytes)) = some (some z, sz, by_)) (hzs : z.cells.size = sz) (hsz : 0 < sz)
    {A : Option Addr} {n c m : Nat} {xs ys : List Value} {xv : Value} (hs : a.eval s = .slice A n c) (hx : a.eval x = xv) (hown : Own w B sz A n c xs) (hsrc : Src w sz m xv ys)
    (hbytes : (n + m) * by_ ≤ 140737488355328) (h63 : n + m ≤ maxLen) (hB : B ≤ w.heap.size)
    (h : ∀ A' c' w', Own w' B sz A' (n + m) c' (xs ++ ys) → w.grownBy w' (A.map (·.block)) → ((A' = A ∧ c' = c) ∨ (A' = some ⟨w.heap.size, 0, none⟩ ∧ c < n + m)) → wpList P ops Q rest (a.put o.dst (.slice A' (n + m) c')) w') :
    Held (wpList P ops Q (o :: rest) a w) := by
  refine held (wpList_plain hgd fun K hK => ?_)
  obtain ⟨i, hi1, hi2, hi3, hi4⟩ := info_parts hi
  obtain ⟨A', c', w', hr, h2, h3, h4⟩ := run_append2 (P := P) w B t u o.type e i z sz by_ ht hu hi1 hi2 hi3 hi4 hzs hsz A n c xs hown xv m ys hsrc hbytes h63 hB
  unfold Oper.wp execOp
  simp only [ho, resolve, invoke, builtin, Sem.run_bind, Sem.run_pure, Result.andThen_ok, List.map_toArray, List.map_cons, List.map_nil, hs, hx, hr]
  exact hK _ _ (h A' c' w' h2 h3 h4)
end
end Go.Cv
/- The law of append, telling besides that where a new row is made the old one stays. -/
namespace Go.Cv
open Go.RowKit
set_option linter.unusedVariables false
theorem run_append3 {P : Program} (w : World) (B : Nat) (t u ty e : TypeId) (i : TypeInfo) (z : Value) (sz by_ : Nat) (ht : P.underlying t = some (.slice e)) (hu : P.underlying u = some (.slice e) ∨ P.underlying u = some .string) (hi : P.info? e = some i) (hz : i.zero = some z)
    (hsize : i.size = sz) (hby : i.bytes = by_) (hzs : z.cells.size = sz) (hsz : 0 < sz)
    (A : Option Addr) (n c : Nat) (xs : List Value) (hown : Own w B sz A n c xs) (x : Value) (m : Nat) (ys : List Value) (hx : Src w sz m x ys)
    (hbytes : (n + m) * by_ ≤ 140737488355328) (h63 : n + m ≤ maxLen) (hB : B ≤ w.heap.size) :
    ∃ A' c' w', (Builtin.append_ #[t, u] ty #[.slice A n c, x]).run P w = .ok (.slice A' (n + m) c') w' ∧ Own w' B sz A' (n + m) c' (xs ++ ys) ∧ w.grownBy w' (A.map (·.block)) ∧
      ((A' = A ∧ c' = c) ∨ (A' = some ⟨w.heap.size, 0, none⟩ ∧ Below w.heap.size w w')) := by
  subst hsize hby
  have hlen : (xs ++ ys).length = (n + m) * i.size := by rw [List.length_append, hown.1, hx.1, Nat.add_mul]
  have hsmall : n + m ≤ 9223372036854775807 := by simp only [maxLen] at h63; omega
  by_cases hroom : n + m ≤ c
  · have hL := hx.len (P := P)
    have hC := hx.cells (P := P) hsz
    obtain ⟨h1, h2, h3, h0 | ⟨b, o, rfl, hBb, hc, hs, hf⟩⟩ := hown
    · have hn0 : n = 0 := by omega
      have hm0 : m = 0 := by omega
      subst hn0 hm0 h0
      have hxs : xs = [] := List.eq_nil_of_length_eq_zero (by simpa using h1)
      have hys : ys = [] := List.eq_nil_of_length_eq_zero (by simpa using hx.1)
      subst hxs hys
      refine ⟨A, 0, w, ?_, Own.empty w B _ A, World.grownBy.refl w _, .inl ⟨rfl, rfl⟩⟩
      cases A with
      | none => rcases hu with hu | hu <;> simp [Builtin.append_, run_underlying ht, run_underlying hu, sizeOf, typeInfo, hi, hL, hC]
      | some a => rcases hu with hu | hu <;> simp [Builtin.append_, run_underlying ht, run_underlying hu, sizeOf, typeInfo, hi, hL, hC, storeCells]
    · have hlt : n * i.size + m * i.size ≤ c * i.size := by rw [← Nat.add_mul]; exact Nat.mul_le_mul_right _ hroom
      have hst := run_storeCells_cells (P := P) b (o + n * i.size) ys 0 w
        (fun j hj => by rw [hx.1] at hj; rw [Nat.add_zero, Nat.add_assoc]; exact hs _ (by omega))
        (fun j hj => by rw [hx.1] at hj; rw [Nat.add_zero, Nat.add_assoc]; exact hf _ (by omega)) hx.2.1
      rw [Nat.add_zero] at hst
      refine ⟨some ⟨b, o, none⟩, c, w.setCells b (o + n * i.size) ys, ?_, ⟨hlen, hroom, h3, .inr ⟨b, o, rfl, hBb, fun j v hj => ?_, fun j hj => ?_, fun j hj => ?_⟩⟩, grownBy_setCells w b _ ys, .inl ⟨rfl, rfl⟩⟩
      · rcases hu with hu | hu <;> simp [Builtin.append_, run_underlying ht, run_underlying hu, sizeOf, typeInfo, hi, hL, hC, hroom, add_lit, hst]
      · rw [List.getElem?_append] at hj
        split at hj
        · rename_i hjx
          rw [World.cell?_setCells_out b ys _ w _ (fun _ _ => .inl (by simp only; rw [h1] at hjx; omega))]
          exact hc j v hj
        · rename_i hjx
          rw [h1] at hjx hj
          have hjy : j - n * i.size < ys.length := (List.getElem?_eq_some_iff.1 hj).1
          have := World.cell?_setCells_in b ys (o + n * i.size) w (fun k hk => by rw [hx.1] at hk; rw [Nat.add_assoc]; exact hs _ (by omega)) (j - n * i.size) hjy
          rw [show o + n * i.size + (j - n * i.size) = o + j by omega] at this
          rw [this, ← hj, List.getElem?_eq_getElem hjy]
      · by_cases hin : n * i.size ≤ j ∧ j < n * i.size + ys.length
        · have := World.cell?_setCells_in b ys (o + n * i.size) w (fun k hk => by rw [hx.1] at hk; rw [Nat.add_assoc]; exact hs _ (by omega)) (j - n * i.size) (by omega)
          rw [show o + n * i.size + (j - n * i.size) = o + j by omega] at this
          rw [this]; rfl
        · rw [World.cell?_setCells_out b ys _ w _ (fun _ _ => by simp only; omega)]
          exact hs j hj
      · rw [World.frozen?_setCells]; exact hf j hj
  · have hL := hx.len (P := P)
    have hC := hx.drew.cells (P := P) hsz
    have hO : (Builtin.firstCells i.size n (.slice A n c)).run P w.drew = .ok xs.toArray w.drew := Rd.load (w := w.drew) (show Rd w.drew A xs from hown.rd) i.size n n c hown.1 hsz
    have h63' : ¬ (9223372036854775807 < ((n : Int) + (m : Int))) := by omega
    have hfit := growslice_fits (need := n + m) (old := c) (bytes := i.bytes) (by omega) hbytes
    have h48' : ¬ (281474976710656 < Builtin.nextslicecap (n + m) c * i.bytes) := by omega
    have hge := grownCap_ge w (n + m) c e
    have hcm : grownCap w (n + m) c e ≤ maxLen := grownCap_le_maxLen w (n + m) c e h63
    have hsc : (xs.toArray ++ ys.toArray ++ Builtin.zeroCells z.cells (grownCap w (n + m) c e - (n + m))).size = grownCap w (n + m) c e * i.size := by
      simp only [Array.size_append, List.size_toArray, size_zeroCells, hzs, hown.1, hx.1, ← Nat.add_mul]
      congr 1
      omega
    refine ⟨some ⟨w.heap.size, 0, none⟩, grownCap w (n + m) c e, w.drew.alloc (.cells (xs.toArray ++ ys.toArray ++ Builtin.zeroCells z.cells (grownCap w (n + m) c e - (n + m))) e), ?_, ?_, ?_, .inr ⟨rfl, (below_drew w).alloc (Nat.le_refl _) _⟩⟩
    · rcases hu with hu | hu <;> simp [Builtin.append_, run_underlying ht, run_underlying hu, sizeOf, typeInfo, zeroValue, hi, hz, hL, hroom, h63', h48', Question.forced, hC, hO, newRow, grownCap] <;> (congr 2; apply Array.ext'; simp [List.append_assoc])
    · refine Own.new w.drew B i.size e (0, 0) _ (n + m) _ _ hlen hge hcm hsc hB (fun j _ h => by simp at h) (fun j v hj => ?_)
      rw [← Array.getElem?_toList]
      simp only [Array.toList_append]
      have hjl : j < (xs ++ ys).length := (List.getElem?_eq_some_iff.1 hj).1
      rw [List.getElem?_append_left hjl]
      exact hj
    · exact ⟨rfl, rfl, rfl, by simp, fun k hk _ => heap_alloc_old w.drew _ hk⟩

section
variable {P : Program} {ops : Array Oper} {rest : List Oper} {o : Oper} {a : Act} {Q : Exit → Act → World → Prop} {w : World}
theorem held_append3 (hgd : o.guard = none) (s x : Operand) (t u : TypeId) (ho : o.op = .call { callee := .builtin .append, args := #[s, x], argTypes := #[t, u] })
    (B e : Nat) (z : Value) (sz by_ : Nat) (ht : P.underlying t = some (.slice e)) (hu : P.underlying u = some (.slice e) ∨ P.underlying u = some .string)
    (hi : (P.info? e).map (fun i => (i.zero, i.size, i.bytes)) = some (some z, sz, by_)) (hzs : z.cells.size = sz) (hsz : 0 < sz)
    {A : Option Addr} {n c m : Nat} {xs ys : List Value} {xv : Value} (hs : a.eval s = .slice A n c) (hx : a.eval x = xv) (hown : Own w B sz A n c xs) (hsrc : Src w sz m xv ys)
    (hbytes : (n + m) * by_ ≤ 140737488355328) (h63 : n + m ≤ maxLen) (hB : B ≤ w.heap.size)
    (h : ∀ A' c' w', Own w' B sz A' (n + m) c' (xs ++ ys) → w.grownBy w' (A.map (·.block)) → ((A' = A ∧ c' = c) ∨ (A' = some ⟨w.heap.size, 0, none⟩ ∧ Below w.heap.size w w')) → wpList P ops Q rest (a.put o.dst (.slice A' (n + m) c')) w') :
    Held (wpList P ops Q (o :: rest) a w) := by
  refine held (wpList_plain hgd fun K hK => ?_)
  obtain ⟨i, hi1, hi2, hi3, hi4⟩ := info_parts hi
  obtain ⟨A', c', w', hr, h2, h3, h4⟩ := run_append3 (P := P) w B t u o.type e i z sz by_ ht hu hi1 hi2 hi3 hi4 hzs hsz A n c xs hown xv m ys hsrc hbytes h63 hB
  unfold Oper.wp execOp
  simp only [ho, resolve, invoke, builtin, Sem.run_bind, Sem.run_pure, Result.andThen_ok, List.map_toArray, List.map_cons, List.map_nil, hs, hx, hr]
  exact hK _ _ (h A' c' w' h2 h3 h4)
end
end Go.Cv
/- Laws of the walks: append in place into a part of a row of the call's own; copy as one step of a region. -/
namespace Go.Cv
open Go.RowKit
set_option linter.unusedVariables false
theorem Own.cut {w : World} {B n c : Nat} {A : Option Addr} {xs : List Value} (h : Own w B 1 A n c xs) (k : Nat) (hk : k ≤ n) : Own w B 1 A k c (xs.take k) := by
  obtain ⟨h1, h2, h3, h0 | ⟨b, o, hA, hB, hc, hs, hf⟩⟩ := h
  · have hn : n = 0 := by omega
    subst hn
    have hk0 : k = 0 := by omega
    subst hk0
    exact ⟨by simp, by omega, h3, .inl h0⟩
  · refine ⟨by rw [List.length_take]; omega, by omega, h3, .inr ⟨b, o, hA, hB, fun j v hj => ?_, hs, hf⟩⟩
    by_cases hjk : j < k
    · rw [List.getElem?_take_of_lt hjk] at hj
      exact hc j v hj
    · rw [List.getElem?_eq_none (by rw [List.length_take]; omega)] at hj
      cases hj
section
variable {P : Program} {ops : Array Oper} {rest : List Oper} {o : Oper} {a : Act} {Q : Exit → Act → World → Prop} {w : World}
theorem held_append_in (hgd : o.guard = none) (s x : Operand) (t u : TypeId) (ho : o.op = .call { callee := .builtin .append, args := #[s, x], argTypes := #[t, u] })
    (B e : Nat) (z : Value) (by_ : Nat) (ht : P.underlying t = some (.slice e)) (hu : P.underlying u = some (.slice e) ∨ P.underlying u = some .string)
    (hi : (P.info? e).map (fun i => (i.zero, i.size, i.bytes)) = some (some z, 1, by_)) {b o' k p q n c c' m : Nat} {xs ys : List Value} {xv : Value} (hp : p = o' + k)
    (hs : a.eval s = .slice (some ⟨b, p, none⟩) q c') (hx : a.eval x = xv) (hown : Own w B 1 (some ⟨b, o', none⟩) n c xs) (hsrc : Src w 1 m xv ys) (hk : k + q + m ≤ n) (hc : q + m ≤ c')
    (h : ∀ w', Own w' B 1 (some ⟨b, o', none⟩) n c (xs.take (k + q) ++ (ys ++ xs.drop (k + q + ys.length))) → w.grownBy w' (some b) → wpList P ops Q rest (a.put o.dst (.slice (some ⟨b, p, none⟩) (q + m) c')) w') :
    Held (wpList P ops Q (o :: rest) a w) := by
  subst hp
  refine held (wpList_plain hgd fun K hK => ?_)
  obtain ⟨i, hi1, hi2, hi3, hi4⟩ := info_parts hi
  have hL := hsrc.len (P := P)
  have hC := hsrc.cells (P := P) (Nat.lt_succ_self 0)
  have hlen : ys.length = m := by simpa using hsrc.1
  have hcs : ∀ j, j < ys.length → (w.cell? ⟨b, o' + k + q + 0 + j, none⟩).isSome = true := fun j hj => by
    obtain ⟨v, _, hcc, _⟩ := hown.at_ (k + q + j) (by omega)
    rw [show o' + k + q + 0 + j = o' + (k + q + j) by omega, hcc]; rfl
  have hfs : ∀ j, j < ys.length → w.frozen? ⟨b, o' + k + q + 0 + j, none⟩ = false := fun j hj => by
    obtain ⟨v, _, _, hf⟩ := hown.at_ (k + q + j) (by omega)
    rw [show o' + k + q + 0 + j = o' + (k + q + j) by omega]; exact hf
  have hst := run_storeCells_cells (P := P) b (o' + k + q) ys 0 w hcs hfs hsrc.2.1
  rw [Nat.add_zero] at hst
  have hO := hown.setCells ys (k + q) (by omega)
  rw [← Nat.add_assoc] at hO
  have hr : (Builtin.append_ #[t, u] o.type #[.slice (some ⟨b, o' + k, none⟩) q c', xv]).run P w = .ok (.slice (some ⟨b, o' + k, none⟩) (q + m) c') (w.setCells b (o' + k + q) ys) := by
    rcases hu with hu | hu <;> simp [Builtin.append_, run_underlying ht, run_underlying hu, sizeOf, typeInfo, hi1, hi3, hL, hC, hc, add_lit, hst]
  unfold Oper.wp execOp
  simp only [ho, resolve, invoke, builtin, Sem.run_bind, Sem.run_pure, Result.andThen_ok, List.map_toArray, List.map_cons, List.map_nil, hs, hx, hr]
  exact hK _ _ (h _ hO (grownBy_setCells w b _ ys))
end
/-- 'copy(d, s)', one step. -/
theorem step_copy {P : Program} {ops : Array Oper} {o : Oper} {a : Act} {w : World} {K : Act → World → Prop} {Q : Exit → Act → World → Prop} {E : Prop}
    (hgd : o.guard = none) (d s : Operand) (t u : TypeId) (ho : o.op = .call { callee := .builtin .copy, args := #[d, s], argTypes := #[t, u] })
    (B e : Nat) (ht : P.underlying t = some (.slice e)) (hi : (P.info? e).map (·.size) = some 1) {b o' k p n c n' c' m m' : Nat} {xs ys : List Value} {A : Option Addr} (hp : p = o' + k)
    (hd : a.eval d = .slice (some ⟨b, p, none⟩) n' c') (hs : a.eval s = .slice A m m') (hown : Own w B 1 (some ⟨b, o', none⟩) n c xs) (hy : ys.length = Nat.min m n') (hk : k + ys.length ≤ n) (h0 : 0 < ys.length) (hr : Rd w A ys) (h1 : ∀ v ∈ ys, v.oneCell' = true)
    (h : ∀ w', Own w' B 1 (some ⟨b, o', none⟩) n c (xs.take k ++ (ys ++ xs.drop (k + ys.length))) → w.grownBy w' (some b) → K (a.put o.dst (goInt ys.length)) w') :
    if Region.wanted o (yielded ops a.tmps) = true then Oper.wp P o a w K Q else E := by
  have hw : Region.wanted o (yielded ops a.tmps) = true := by simp [Region.wanted, hgd]
  rw [if_pos hw]
  subst hp
  rcases hr with hr | ⟨b2, o2, rfl, hr⟩
  · rw [hr] at h0; simp at h0
  have hcs : ∀ j, j < ys.length → (w.cell? ⟨b, o' + k + j, none⟩).isSome = true := fun j hj => by
    obtain ⟨v, _, hc, _⟩ := hown.at_ (k + j) (by omega)
    rw [Nat.add_assoc, hc]; rfl
  have hfs : ∀ j, j < ys.length → w.frozen? ⟨b, o' + k + j, none⟩ = false := fun j hj => by
    obtain ⟨v, _, _, hf⟩ := hown.at_ (k + j) (by omega)
    rw [Nat.add_assoc]; exact hf
  have hrun := run_copy_cells (P := P) w t u o.type e b (o' + k) n' c' ⟨b2, o2, none⟩ m m' ys ht hi hy (fun j v hj => by rw [add_lit]; exact hr j v hj) hcs hfs h1
  have hO := hown.setCells ys k hk
  unfold Oper.wp
  simp [execOp, ho, resolve, invoke, builtin, hd, hs, hrun, Result.andThen]
  exact h _ hO (grownBy_setCells w b (o' + k) ys)
end Go.Cv
/- Rows of byte slices, each in a row of its own: no program text. -/
namespace Go.Cv
open Go.RowKit
set_option linter.unusedVariables false
/-- The cells are byte slices, each at the head of a row of its own from base on, none of them in the row A. -/
def Elems (base : Nat) (A : Option Addr) (w : World) (xs : List Value) : Prop :=
  ∀ v ∈ xs, ∃ eb n c l, v = .slice (some ⟨eb, 0, none⟩) n c ∧ List.length l = n ∧ base ≤ eb ∧ eb < w.heap.size ∧ A.map (·.block) ≠ some eb ∧ Rd w (some ⟨eb, 0, none⟩) (vs l)
theorem Elems.nil (base : Nat) (A : Option Addr) (w : World) : Elems base A w [] := fun v h => by simp at h
theorem Elems.step {base : Nat} {A : Option Addr} {w w' : World} {L : List Nat} {xs : List Value} (h : Elems base A w xs) (ht : Tch L w w') (hL : ∀ k ∈ L, k < base ∨ A.map (·.block) = some k) : Elems base A w' xs := fun v hv => by
  obtain ⟨eb, n, c, l, h1, h2, h3, h4, h5, h6⟩ := h v hv
  have hn : eb ∉ L := fun hm => by
    rcases hL eb hm with h | h
    · omega
    · exact h5 h
  exact ⟨eb, n, c, l, h1, h2, h3, Nat.lt_of_lt_of_le h4 ht.size, h5, h6.tch ht hn⟩
/-- The row is another one now, one that came after all elements. -/
theorem Elems.moved {base : Nat} {A A' : Option Addr} {w : World} {xs : List Value} (h : Elems base A w xs) (hA : A' = A ∨ ∃ b, A' = some ⟨b, 0, none⟩ ∧ w.heap.size ≤ b) : Elems base A' w xs := fun v hv => by
  obtain ⟨eb, n, c, l, h1, h2, h3, h4, h5, h6⟩ := h v hv
  refine ⟨eb, n, c, l, h1, h2, h3, h4, ?_, h6⟩
  rcases hA with rfl | ⟨b, rfl, hb⟩
  · exact h5
  · simp; omega
theorem Elems.append {base c c' : Nat} {A A' : Option Addr} {w w' : World} {xs : List Value} (h : Elems base A w xs) (hg : w.grownBy w' (A.map (·.block))) (hA : (A' = A ∧ c' = c) ∨ A' = some ⟨w.heap.size, 0, none⟩) : Elems base A' w' xs := fun v hv => by
  obtain ⟨eb, n, c, l, h1, h2, h3, h4, h5, h6⟩ := h v hv
  have hn : eb ∉ (A.map (·.block)).toList := fun hm => by
    rw [Option.mem_toList] at hm
    exact h5 hm
  refine ⟨eb, n, c, l, h1, h2, h3, Nat.lt_of_lt_of_le h4 hg.size, ?_, h6.tch (Tch.grown hg) hn⟩
  rcases hA with ⟨rfl, _⟩ | rfl
  · exact h5
  · simp; omega
theorem Own.drew {w : World} {B sz n c : Nat} {A : Option Addr} {xs : List Value} (h : Own w B sz A n c xs) : Own w.drew B sz A n c xs := h
theorem grown_undrew {w w' : World} {r : Option Nat} (h : w.drew.grownBy w' r) : w.grownBy w' r := ⟨h.os, h.tape, h.output, h.size, h.block⟩
/-- The row lies in the heap. -/
def Lo (A : Option Addr) (w : World) : Prop := ∀ a, A.map (·.block) = some a → a < w.heap.size
theorem Lo.none (w : World) : Lo none w := fun a h => by simp at h
theorem Lo.ne {A : Option Addr} {w : World} {a : Nat} (h : Lo A w) (ha : w.heap.size ≤ a) : A.map (·.block) ≠ some a := fun e => by have := h a e; omega
theorem Own.lo {w : World} {B n c : Nat} {A : Option Addr} {xs : List Value} (h : Own w B 1 A n c xs) (hn : 0 < n) : Lo A w := fun a ha => by
  obtain ⟨h1, h2, _, h0 | ⟨b, o, rfl, _, _, hs, _⟩⟩ := h
  · omega
  · simp at ha
    subst ha
    obtain ⟨u, hu⟩ := Option.isSome_iff_exists.1 (hs 0 (by omega))
    exact block_lt hu
theorem Lo.mono {A : Option Addr} {w w' : World} (h : Lo A w) (hs : w.heap.size ≤ w'.heap.size) : Lo A w' := fun a ha => Nat.lt_of_lt_of_le (h a ha) hs
theorem Elems.snoc {base : Nat} {A : Option Addr} {w : World} {xs : List Value} (h : Elems base A w xs) {eb n c : Nat} {l : List UInt8} (h2 : l.length = n) (h3 : base ≤ eb) (h4 : eb < w.heap.size) (h5 : A.map (·.block) ≠ some eb) (h6 : Rd w (some ⟨eb, 0, none⟩) (vs l)) :
    Elems base A w (xs ++ [.slice (some ⟨eb, 0, none⟩) n c]) := fun v hv => by
  rcases List.mem_append.1 hv with hv | hv
  · exact h v hv
  · simp at hv
    exact ⟨eb, n, c, l, hv, h2, h3, h4, h5, h6⟩
/-- Texts, each with its length in three bytes ahead. -/
theorem Elems.at_ {base : Nat} {A : Option Addr} {w : World} {xs : List Value} (h : Elems base A w xs) (j : Nat) (hj : j < xs.length) : ∃ eb n c l, xs[j]? = some (.slice (some ⟨eb, 0, none⟩) n c) ∧ List.length l = n ∧ base ≤ eb ∧ Rd w (some ⟨eb, 0, none⟩) (vs l) := by
  obtain ⟨eb, n, c, l, h1, h2, h3, _, _, h6⟩ := h _ (List.getElem_mem hj)
  exact ⟨eb, n, c, l, by rw [List.getElem?_eq_getElem hj, h1], h2, h3, h6⟩
end Go.Cv
/- Plain laws: a small hash. -/
namespace Go.Cv
open Go.RowKit
set_option linter.unusedVariables false
def toySize (kind : Nat) : Nat := 4 + 4 * (kind % 8)
def toyBlock (kind : Nat) : Nat := 8 + 8 * (kind / 8 % 8)
theorem toySize_le (kind : Nat) : 4 ≤ toySize kind ∧ toySize kind ≤ 32 := by unfold toySize; omega
theorem toyBlock_le (kind : Nat) : 8 ≤ toyBlock kind ∧ toyBlock kind ≤ 64 := by unfold toyBlock; omega
def sumFirst (n kind len k : Nat) : List Nat := ((List.range k).map fun i => (7 * i + kind + len) % 256) ++ List.replicate (n - k) 0
def mixA (x c y i : Nat) : Nat := ((((x + c) % 256 * 29) % 256 ^^^ y) + i % 256) % 256
def mixB (x y i : Nat) : Nat := (((x * 13) % 256 + y) % 256 + i % 256) % 256
def sumA (n kind : Nat) (l : List UInt8) : Nat → List Nat
  | 0 => sumFirst n kind l.length n
  | i + 1 => (sumA n kind l i).set (i % n) (mixA ((sumA n kind l i).getD (i % n) 0) (l.getD i 0).toNat ((sumA n kind l i).getD ((i % n + 1) % n) 0) i)
def sumB (n kind : Nat) (l : List UInt8) : Nat → List Nat
  | 0 => sumA n kind l l.length
  | i + 1 => (sumB n kind l i).set (i % n) (mixB ((sumB n kind l i).getD (i % n) 0) ((sumB n kind l i).getD ((i % n + n - 1) % n) 0) i)
def toySum (kind : Nat) (l : List UInt8) : List UInt8 := (sumB (toySize kind) kind l (2 * toySize kind)).map UInt8.ofNat
theorem sumFirst_length (n kind len k : Nat) (h : k ≤ n) : (sumFirst n kind len k).length = n := by simp [sumFirst]; omega
theorem sumFirst_step (n kind len k : Nat) (h : k < n) : (sumFirst n kind len k).set k ((7 * k + kind + len) % 256) = sumFirst n kind len (k + 1) := by
  unfold sumFirst
  have hl : ((List.range k).map fun i => (7 * i + kind + len) % 256).length = k := by simp
  rw [List.set_append_right _ _ (by rw [hl]; exact Nat.le_refl _), hl, Nat.sub_self, List.range_succ, List.map_append, List.append_assoc]
  congr 1
  obtain ⟨d, hd⟩ : ∃ d, n - k = d + 1 := ⟨n - k - 1, by omega⟩
  have hd2 : n - (k + 1) = d := by omega
  rw [hd, hd2, List.replicate_succ]
  rfl
theorem sumA_length (n kind : Nat) (l : List UInt8) (i : Nat) : (sumA n kind l i).length = n := by
  induction i with
  | zero => exact sumFirst_length _ _ _ _ (Nat.le_refl _)
  | succ i ih => rw [sumA, List.length_set, ih]
theorem sumB_length (n kind : Nat) (l : List UInt8) (i : Nat) : (sumB n kind l i).length = n := by
  induction i with
  | zero => exact sumA_length _ _ _ _
  | succ i ih => rw [sumB, List.length_set, ih]
theorem sumFirst_small (n kind len k : Nat) : ∀ x ∈ sumFirst n kind len k, x < 256 := by
  intro x hx
  simp only [sumFirst, List.mem_append, List.mem_map, List.mem_replicate] at hx
  rcases hx with ⟨i, _, rfl⟩ | ⟨_, rfl⟩
  · exact Nat.mod_lt _ (by omega)
  · omega
theorem sumA_small (n kind : Nat) (l : List UInt8) (i : Nat) : ∀ x ∈ sumA n kind l i, x < 256 := by
  induction i with
  | zero => exact sumFirst_small _ _ _ _
  | succ i ih =>
    intro x hx
    rw [sumA] at hx
    rcases List.mem_or_eq_of_mem_set hx with hx | rfl
    · exact ih x hx
    · exact Nat.mod_lt _ (by omega)
theorem sumB_small (n kind : Nat) (l : List UInt8) (i : Nat) : ∀ x ∈ sumB n kind l i, x < 256 := by
  induction i with
  | zero => exact sumA_small _ _ _ _
  | succ i ih =>
    intro x hx
    rw [sumB] at hx
    rcases List.mem_or_eq_of_mem_set hx with hx | rfl
    · exact ih x hx
    · exact Nat.mod_lt _ (by omega)
theorem getD_lt {ws : List Nat} {B : Nat} (h : ∀ x ∈ ws, x < B) (h0 : 0 < B) (i : Nat) : ws.getD i 0 < B := by
  by_cases hi : i < ws.length
  · rw [List.getD_eq_getElem?_getD, List.getElem?_eq_getElem hi]
    exact h _ (List.getElem_mem hi)
  · rw [List.getD_eq_getElem?_getD, List.getElem?_eq_none (by omega)]
    simpa using h0
theorem toySum_length (kind : Nat) (l : List UInt8) : (toySum kind l).length = toySize kind := by simp [toySum, sumB_length]
/-- Bytes as cells. -/
def nv (st : List Nat) : List Value := st.map fun x => Value.int .u8 (x : Nat)
theorem nv_length (st : List Nat) : (nv st).length = st.length := by simp [nv]
theorem nv_set (st : List Nat) (i x : Nat) : (nv st).set i (.int .u8 (x : Nat)) = nv (st.set i x) := by simp [nv, List.map_set]
theorem nv_at (st : List Nat) (i : Nat) (hi : i < st.length) : (nv st)[i]? = some (.int .u8 (st.getD i 0 : Nat)) := by simp [nv, List.getD, hi]
theorem nv_vs (st : List Nat) (h : ∀ x ∈ st, x < 256) : nv st = vs (st.map UInt8.ofNat) := by
  unfold nv vs
  rw [List.map_map]
  refine List.map_congr_left (fun x hx => ?_)
  have := h x hx
  simp
  omega
theorem own_nv {w : World} {B r n c : Nat} {st : List Nat} (h : Own w B 1 (some ⟨r, 0, none⟩) n c (nv st)) (hl : st.length = n) (i : Nat) (hi : i < n) : w.cell? ⟨r, i, none⟩ = some (.int .u8 (st.getD i 0 : Nat)) ∧ w.frozen? ⟨r, i, none⟩ = false := by
  obtain ⟨v, h1, h2, h3⟩ := h.at_ i hi
  rw [nv_at _ _ (by rw [hl]; exact hi)] at h1
  obtain rfl := Option.some.inj h1
  simp only [Nat.zero_add] at h2 h3
  exact ⟨h2, h3⟩
theorem own_nv_set {w : World} {B r n c : Nat} {st : List Nat} (h : Own w B 1 (some ⟨r, 0, none⟩) n c (nv st)) (i x : Nat) (hi : i < n) : Own (w.setCell ⟨r, i, none⟩ (.int .u8 (x : Nat))) B 1 (some ⟨r, 0, none⟩) n c (nv (st.set i x)) := by
  have h1 := h.set i hi (.int .u8 (x : Nat))
  rw [nv_set] at h1
  simp only [Nat.zero_add] at h1
  exact h1
theorem nv_zero (n : Nat) : nv (List.replicate n 0) = List.replicate n (Value.int .u8 0) := by simp [nv]
/-! numbers of the walk -/
theorem u8_add (x c : Nat) : IntKind.u8.wrap ((x : Int) + c) = (((x + c) % 256 : Nat) : Int) := by rw [IntKind.wrap_u8]; omega
theorem u8_mul29 (x : Nat) : IntKind.u8.wrap ((x : Int) * 29) = ((x * 29 % 256 : Nat) : Int) := by rw [IntKind.wrap_u8]; omega
theorem u8_mul13 (x : Nat) : IntKind.u8.wrap ((x : Int) * 13) = ((x * 13 % 256 : Nat) : Int) := by rw [IntKind.wrap_u8]; omega
theorem u8_nat (x : Nat) : IntKind.u8.wrap (x : Int) = ((x % 256 : Nat) : Int) := by rw [IntKind.wrap_u8]; omega
theorem i64_nat (a : Nat) (h : a < 4294967296) : IntKind.i64.wrap (a : Int) = (a : Int) := by rw [IntKind.wrap_i64]; omega
theorem mod_nat (j n : Nat) : (j : Int) % n = ((j % n : Nat) : Int) := by rfl
theorem tmod_nat (j n : Nat) : (j : Int).tmod n = ((j % n : Nat) : Int) := by rw [Int.tmod_eq_emod_of_nonneg (by omega)]; rfl
theorem w64_inc {j n : Nat} (h : j < n) (hn : n ≤ 4294967296) : wrap64 ((j : Int) + 1) = (j : Int) + 1 := by unfold wrap64; omega
theorem cast_add (a b c : Nat) (h : a + b = c) : (a : Int) + b = (c : Int) := by omega
theorem cast_inc (a c : Nat) (h : a + 1 = c) : (a : Int) + 1 = (c : Int) := by omega
theorem cast_dec (a c : Nat) (h : a - 1 = c) (h0 : 0 < a) : (a : Int) - 1 = (c : Int) := by omega
theorem w64_two (n : Nat) (h : n ≤ 32) : wrap64 (2 * (n : Int)) = 2 * (n : Int) := by unfold wrap64; omega
theorem lt_two {j n : Nat} (h : j < 2 * n) : decide ((j : Int) < 2 * (n : Int)) = true ∧ (j : Int) < 2 * (n : Int) := ⟨by simp; omega, by omega⟩
theorem first_u8 (j kind len : Nat) : IntKind.u8.wrap (7 * (j : Int) + kind + len) = (((7 * j + kind + len) % 256 : Nat) : Int) := by rw [IntKind.wrap_u8]; omega
end Go.Cv
/- Plain laws: a keyed hash over the small one. -/
namespace Go.Cv
open Go.RowKit
set_option linter.unusedVariables false
/-- A key as long as a block: cut, or filled up with zeros. -/
def padKey (bs : Nat) (key : List UInt8) : List UInt8 := key.take bs ++ List.replicate (bs - key.length) 0
theorem padKey_length (bs : Nat) (key : List UInt8) : (padKey bs key).length = bs := by simp [padKey]; omega
def hmKey (kind : Nat) (key : List UInt8) : List UInt8 := if toyBlock kind < key.length then toySum kind key else key
/-- The first j bytes are turned by c. -/
def xorPart (c : UInt8) (j : Nat) (l : List UInt8) : List UInt8 := (l.take j).map (· ^^^ c) ++ l.drop j
theorem xorPart_zero (c : UInt8) (l : List UInt8) : xorPart c 0 l = l := by simp [xorPart]
theorem xorPart_length (c : UInt8) (j : Nat) (l : List UInt8) : (xorPart c j l).length = l.length := by simp [xorPart]; omega
theorem xorPart_all (c : UInt8) (l : List UInt8) : xorPart c l.length l = l.map (· ^^^ c) := by simp [xorPart]
theorem xorPart_at (c : UInt8) (j : Nat) (l : List UInt8) (hj : j < l.length) : (xorPart c j l).getD j 0 = l.getD j 0 := by
  have : ((l.take j).map (· ^^^ c)).length = j := by simp; omega
  rw [xorPart, List.getD_eq_getElem?_getD, List.getElem?_append_right (by omega), this, Nat.sub_self, List.getElem?_drop, Nat.add_zero, List.getD_eq_getElem?_getD]
theorem xorPart_step (c : UInt8) (j : Nat) (l : List UInt8) (hj : j < l.length) : (xorPart c j l).set j (l.getD j 0 ^^^ c) = xorPart c (j + 1) l := by
  have hl : ((l.take j).map (· ^^^ c)).length = j := by simp; omega
  unfold xorPart
  rw [List.set_append_right _ _ (by omega), hl, Nat.sub_self, List.drop_eq_getElem_cons hj, List.set_cons_zero]
  have : l.getD j 0 = l[j] := by simp [List.getD, hj]
  rw [this, List.take_succ_eq_append_getElem hj, List.map_append, List.append_assoc]
  rfl
def hmPad (c : UInt8) (kind : Nat) (key : List UInt8) : List UInt8 := (padKey (toyBlock kind) (hmKey kind key)).map (· ^^^ c)
theorem hmPad_length (c : UInt8) (kind : Nat) (key : List UInt8) : (hmPad c kind key).length = toyBlock kind := by rw [hmPad, List.length_map, padKey_length]
def toyHmac (kind : Nat) (key text : List UInt8) : List UInt8 := toySum kind (hmPad 92 kind key ++ toySum kind (hmPad 54 kind key ++ text))
theorem toyHmac_length (kind : Nat) (key text : List UInt8) : (toyHmac kind key text).length = toySize kind := toySum_length _ _
theorem hmKey_length (kind : Nat) (key : List UInt8) : (hmKey kind key).length ≤ key.length ∨ (hmKey kind key).length = toySize kind := by
  unfold hmKey; split
  · exact .inr (toySum_length _ _)
  · exact .inl (Nat.le_refl _)
theorem vs_xor54 (x : UInt8) : bits .xor .u8 (x.toNat : Int) 54 = (((x ^^^ 54 : UInt8)).toNat : Int) := by
  have h := u8_xor_nat x.toNat 54 x.toNat_lt (by omega)
  rw [UInt8.toNat_xor]
  exact h
theorem vs_xor92 (x : UInt8) : bits .xor .u8 (x.toNat : Int) 92 = (((x ^^^ 92 : UInt8)).toNat : Int) := by
  have h := u8_xor_nat x.toNat 92 x.toNat_lt (by omega)
  rw [UInt8.toNat_xor]
  exact h
theorem vs_set_ (l : List UInt8) (i : Nat) (x : UInt8) : (vs l).set i (.int .u8 x.toNat) = vs (l.set i x) := by simp [vs, List.map_set]
theorem own_vs {w : World} {B r n c : Nat} {l : List UInt8} (h : Own w B 1 (some ⟨r, 0, none⟩) n c (vs l)) (i : Nat) (hi : i < n) : w.cell? ⟨r, i, none⟩ = some (.int .u8 (l.getD i 0).toNat) ∧ w.frozen? ⟨r, i, none⟩ = false := by
  obtain ⟨v, h1, h2, h3⟩ := h.at_ i hi
  have hl : i < l.length := by have := h.1; rw [vs_length] at this; omega
  have : (vs l)[i]? = some (.int .u8 (l.getD i 0).toNat) := by simp [vs, List.getD, hl]
  rw [this] at h1
  obtain rfl := Option.some.inj h1
  simp only [Nat.zero_add] at h2 h3
  exact ⟨h2, h3⟩
theorem own_vs_set {w : World} {B r n c : Nat} {l : List UInt8} (h : Own w B 1 (some ⟨r, 0, none⟩) n c (vs l)) (i : Nat) (x : UInt8) (hi : i < n) : Own (w.setCell ⟨r, i, none⟩ (.int .u8 x.toNat)) B 1 (some ⟨r, 0, none⟩) n c (vs (l.set i x)) := by
  have h1 := h.set i hi (.int .u8 x.toNat)
  rw [vs_set_] at h1
  simp only [Nat.zero_add] at h1
  exact h1
/-- A copy of a key into zeros is the filled key. -/
theorem copy_pad (bs : Nat) (key : List UInt8) : (List.replicate bs (Value.int .u8 0)).take 0 ++ (vs (key.take bs) ++ (List.replicate bs (Value.int .u8 0)).drop (0 + (vs (key.take bs)).length)) = vs (padKey bs key) := by
  have hz : ∀ n, vs (List.replicate n 0) = List.replicate n (Value.int .u8 0) := by intro n; simp [vs]
  rw [vs_length, padKey, vs_append, hz]
  simp [List.length_take]
  omega
end Go.Cv
/- Plain laws: the stand-in of an authenticated cipher. -/
namespace Go.Cv
open Go.RowKit
set_option linter.unusedVariables false
def aKeyed (key : List UInt8) (i : Nat) : UInt8 := if key.length = 0 then UInt8.ofNat i else key.getD (i % key.length) 0 + UInt8.ofNat i
def aStream (key nonce : List UInt8) (i : Nat) : UInt8 :=
  if nonce.length = 0 then aKeyed key i + UInt8.ofNat (11 * i) else aKeyed key i + UInt8.ofNat (11 * i) + nonce.getD (i % nonce.length) 0 * 3
/-- The first j bytes, hidden. -/
def aHide (key nonce p : List UInt8) (j : Nat) : List UInt8 := (List.range j).map fun i => p.getD i 0 ^^^ aStream key nonce i
theorem aHide_zero (key nonce p : List UInt8) : aHide key nonce p 0 = [] := rfl
theorem aHide_length (key nonce p : List UInt8) (j : Nat) : (aHide key nonce p j).length = j := by simp [aHide]
theorem aHide_succ (key nonce p : List UInt8) (j : Nat) : aHide key nonce p (j + 1) = aHide key nonce p j ++ [p.getD j 0 ^^^ aStream key nonce j] := by
  simp [aHide, List.range_succ]
def aMarkText (key nonce plain ad : List UInt8) : List UInt8 := toySum 39 key ++ toySum 39 nonce ++ toySum 39 ad ++ plain
def aMark (key nonce plain ad : List UInt8) (tag : Nat) : List UInt8 := (toySum 39 (aMarkText key nonce plain ad)).take tag
theorem size39 : toySize 39 = 32 := rfl
theorem aMark_length (key nonce plain ad : List UInt8) (tag : Nat) (h : tag ≤ 32) : (aMark key nonce plain ad tag).length = tag := by
  rw [aMark, List.length_take, toySum_length, size39]; omega
def aSeal (key nonce plain ad : List UInt8) (tag : Nat) : List UInt8 := aHide key nonce plain plain.length ++ aMark key nonce plain ad tag
theorem aSeal_length (key nonce plain ad : List UInt8) (tag : Nat) (h : tag ≤ 32) : (aSeal key nonce plain ad tag).length = plain.length + tag := by
  rw [aSeal, List.length_append, aHide_length, aMark_length _ _ _ _ _ h]
theorem u8a (x y : UInt8) : IntKind.u8.wrap ((x.toNat : Int) + (y.toNat : Int)) = ((x + y).toNat : Int) := by
  rw [IntKind.wrap_u8, UInt8.toNat_add]; omega
theorem u8m3 (x : UInt8) : IntKind.u8.wrap ((x.toNat : Int) * 3) = ((x * 3).toNat : Int) := by
  rw [IntKind.wrap_u8, UInt8.toNat_mul]; have : (3 : UInt8).toNat = 3 := rfl; rw [this]; omega
theorem u8x (x y : UInt8) : bits .xor .u8 (x.toNat : Int) (y.toNat : Int) = ((x ^^^ y).toNat : Int) := by
  have h := u8_xor_nat x.toNat y.toNat x.toNat_lt y.toNat_lt
  rw [UInt8.toNat_xor]
  exact h
theorem u8o (i : Nat) : IntKind.u8.wrap (i : Int) = ((UInt8.ofNat i).toNat : Int) := by
  rw [IntKind.wrap_u8, UInt8.toNat_ofNat']; omega
theorem w64_11 (i : Nat) (hi : i ≤ 1000000) : wrap64 (11 * (i : Int)) = ((11 * i : Nat) : Int) := by unfold wrap64; omega
theorem i64_11 (i : Nat) (hi : i ≤ 1000000) : IntKind.i64.wrap (11 * (i : Int)) = ((11 * i : Nat) : Int) := by rw [IntKind.wrap_i64]; omega
theorem below_tchA {B : Nat} {w0 w w' : World} {L : List Nat} (h : Below B w0 w) (ht : Tch L w w') (hL : ∀ k ∈ L, B ≤ k) (hB : B ≤ w.heap.size) : Below B w0 w' :=
  h.trans ⟨ht.os, ht.tape, ht.output, ht.size, fun k hk => ht.block k (by omega) (fun hm => by have := hL k hm; omega)⟩
end Go.Cv
/- Plain laws: the stand-in of an authenticated cipher, opened. -/
namespace Go.Cv
open Go.RowKit
set_option linter.unusedVariables false
/-- What a sealed text holds, or that it is none. -/
def aOpen (key nonce sealed ad : List UInt8) (tag : Nat) : Option (List UInt8) :=
  if sealed.length < tag then none
  else if aMark key nonce (aHide key nonce sealed (sealed.length - tag)) ad tag = sealed.drop (sealed.length - tag) then some (aHide key nonce sealed (sealed.length - tag)) else none
/-- The row while it is shown. -/
def showPart (key nonce p : List UInt8) (n j : Nat) : List UInt8 := aHide key nonce p j ++ List.replicate (n - j) 0
theorem showPart_zero (key nonce p : List UInt8) (n : Nat) : showPart key nonce p n 0 = List.replicate n 0 := by simp [showPart, aHide]
theorem showPart_all (key nonce p : List UInt8) (n : Nat) : showPart key nonce p n n = aHide key nonce p n := by simp [showPart]
theorem showPart_length (key nonce p : List UInt8) (n j : Nat) (h : j ≤ n) : (showPart key nonce p n j).length = n := by
  rw [showPart, List.length_append, aHide_length, List.length_replicate]; omega
theorem showPart_step (key nonce p : List UInt8) (n j : Nat) (h : j < n) : (showPart key nonce p n j).set j (p.getD j 0 ^^^ aStream key nonce j) = showPart key nonce p n (j + 1) := by
  obtain ⟨d, hd⟩ : ∃ d, n - j = d + 1 := ⟨n - j - 1, by omega⟩
  have hd2 : n - (j + 1) = d := by omega
  unfold showPart
  rw [List.set_append_right _ _ (by rw [aHide_length]; exact Nat.le_refl _), aHide_length, Nat.sub_self, hd, hd2, List.replicate_succ, List.set_cons_zero, aHide_succ, List.append_assoc]
  rfl
theorem vs_rep (n : Nat) : vs (List.replicate n (0 : UInt8)) = List.replicate n (Value.int .u8 0) := by simp [vs]
theorem S_ne {a b : List UInt8} (h : a ≠ b) : S a ≠ S b := fun e => h (S_inj e)
theorem aHide_back (key nonce p q : List UInt8) : aHide key nonce (aHide key nonce p p.length ++ q) p.length = p := by
  apply List.ext_getElem
  · rw [aHide_length]
  · intro i h1 h2
    rw [aHide_length] at h1
    have e1 : (aHide key nonce p p.length ++ q).getD i 0 = p.getD i 0 ^^^ aStream key nonce i := by
      rw [List.getD_eq_getElem?_getD, List.getElem?_append_left (by rw [aHide_length]; exact h1)]
      simp [aHide, h1]
    have e2 : (aHide key nonce (aHide key nonce p p.length ++ q) p.length)[i]'(by rw [aHide_length]; exact h1) = (aHide key nonce p p.length ++ q).getD i 0 ^^^ aStream key nonce i := by
      simp [aHide]
    rw [e2, e1, UInt8.xor_assoc, UInt8.xor_self, UInt8.xor_zero]
    simp [List.getD, h1]
theorem aOpen_aSeal (key nonce p ad : List UInt8) (tag : Nat) (h : tag ≤ 32) : aOpen key nonce (aSeal key nonce p ad tag) ad tag = some p := by
  have hl := aSeal_length key nonce p ad tag h
  have hn : (aSeal key nonce p ad tag).length - tag = p.length := by omega
  have hb : aHide key nonce (aSeal key nonce p ad tag) p.length = p := aHide_back key nonce p _
  have hd : (aSeal key nonce p ad tag).drop p.length = aMark key nonce p ad tag := by
    rw [aSeal, List.drop_left' (aHide_length _ _ _ _)]
  rw [aOpen, if_neg (by omega), hn, hb, hd, if_pos rfl]
end Go.Cv
/- Plain laws: bytes drawn out of a keyed hash. -/
namespace Go.Cv
open Go.RowKit
set_option linter.unusedVariables false
def phA (kind : Nat) (key seed : List UInt8) : Nat → List UInt8
  | 0 => seed
  | j + 1 => toyHmac kind key (phA kind key seed j)
def phOut (kind : Nat) (key seed : List UInt8) : Nat → List UInt8
  | 0 => []
  | j + 1 => phOut kind key seed j ++ toyHmac kind key (phA kind key seed (j + 1) ++ seed)
theorem phA_length (kind : Nat) (key seed : List UInt8) (j : Nat) : (phA kind key seed (j + 1)).length = toySize kind := toyHmac_length _ _ _
theorem phOut_length (kind : Nat) (key seed : List UInt8) (j : Nat) : (phOut kind key seed j).length = j * toySize kind := by
  induction j with
  | zero => simp [phOut]
  | succ j ih => rw [phOut, List.length_append, ih, toyHmac_length, Nat.succ_mul]
theorem phOut_prefix (kind : Nat) (key seed : List UInt8) (i j : Nat) (h : i ≤ j) : (phOut kind key seed i) <+: (phOut kind key seed j) := by
  induction j with
  | zero => obtain rfl : i = 0 := by omega
            exact List.prefix_refl _
  | succ j ih =>
    rcases Nat.lt_or_ge i (j + 1) with h1 | h1
    · exact (ih (by omega)).trans (List.prefix_append _ _)
    · obtain rfl : i = j + 1 := by omega
      exact List.prefix_refl _
/-- The first n bytes do not turn on how many rounds were run. -/
theorem phOut_take (kind : Nat) (key seed : List UInt8) (i j n : Nat) (h1 : n ≤ i * toySize kind) (h2 : n ≤ j * toySize kind) : (phOut kind key seed i).take n = (phOut kind key seed j).take n := by
  have key1 : ∀ i j, i ≤ j → n ≤ i * toySize kind → (phOut kind key seed i).take n = (phOut kind key seed j).take n := by
    intro i j hij hn
    obtain ⟨t, ht⟩ := phOut_prefix kind key seed i j hij
    rw [← ht, List.take_append_of_le_length (by rw [phOut_length]; exact hn)]
  rcases Nat.le_total i j with h | h
  · exact key1 i j h h1
  · exact (key1 j i h h2).symm
end Go.Cv
/- Plain laws: a row that is filled place by place. -/
namespace Go.Cv
open Go.RowKit
set_option linter.unusedVariables false
/-- The first j bytes of l, zeros behind them. -/
def fillPart (l : List UInt8) (j : Nat) : List UInt8 := l.take j ++ List.replicate (l.length - j) 0
theorem fillPart_zero (l : List UInt8) : fillPart l 0 = List.replicate l.length 0 := by simp [fillPart]
theorem fillPart_all (l : List UInt8) : fillPart l l.length = l := by simp [fillPart]
theorem fillPart_step (l : List UInt8) (j : Nat) (hj : j < l.length) : (fillPart l j).set j (l.getD j 0) = fillPart l (j + 1) := by
  have hl : (l.take j).length = j := by simp; omega
  unfold fillPart
  rw [List.set_append_right _ _ (by omega), hl, Nat.sub_self]
  obtain ⟨d, hd⟩ : ∃ d, l.length - j = d + 1 := ⟨l.length - j - 1, by omega⟩
  have hd2 : l.length - (j + 1) = d := by omega
  rw [hd, hd2, List.replicate_succ, List.set_cons_zero, List.take_succ_eq_append_getElem hj, List.append_assoc]
  have : l.getD j 0 = l[j] := by simp [List.getD, hj]
  rw [this]
  rfl
theorem padKey_at (bs : Nat) (key : List UInt8) (j : Nat) (hj : j < bs) : (padKey bs key).getD j 0 = if j < key.length then key.getD j 0 else 0 := by
  unfold padKey
  split
  · rename_i h
    rw [List.getD_eq_getElem?_getD, List.getElem?_append_left (by simp; omega), List.getElem?_take_of_lt hj, List.getD_eq_getElem?_getD]
  · rename_i h
    rw [List.getD_eq_getElem?_getD, List.getElem?_append_right (by simp; omega), List.getElem?_replicate]
    split <;> simp
theorem map_getD (f : UInt8 → UInt8) (l : List UInt8) (j : Nat) (hj : j < l.length) : (l.map f).getD j 0 = f (l.getD j 0) := by simp [List.getD, hj]
end Go.Cv
/- From a walk that writes nothing that was there to a row's last step: no program text. -/
namespace Go.Cv
open Go.ChangeShapes Go.WideShapes Go.ChangeAt Go.RowKit

theorem trodAll_below {H : Type} {enc : TypeId × Value → H} {P : Program} (hl : laidOutB P = true) {W W' : World} (hb : Below W.heap.size W W') :
    ∀ (ts : List TypeId) (xs : List Value) (ds : List (DataW H)) (ps : List MemPlace), (ts.all fun t => P.readableRec t && decide (t < P.types.size)) = true →
      DataW.TrodAll enc P W 0 (fun _ => true) true ts xs ds ps → (∀ x ∈ ps, x.block < W.heap.size) → DataW.TrodAll enc P W' 0 (fun b => decide (b < W.heap.size)) true ts xs ds ps := by
  intro ts
  induction ts with
  | nil =>
    intro xs ds ps _ h _
    cases xs <;> cases ds <;> simp only [DataW.TrodAll] at h ⊢ <;> exact h
  | cons t ts ih =>
    intro xs ds ps hr h hlt
    cases xs with
    | nil => cases ds <;> exact h.elim
    | cons x xs =>
      cases ds with
      | nil => exact h.elim
      | cons d ds =>
        obtain ⟨p, q, h1, h2, rfl⟩ := h
        simp only [List.all_cons, Bool.and_eq_true, decide_eq_true_eq] at hr
        exact ⟨p, q, Below.trod hl hr.1.1 hr.1.2 h1 hb (fun y hy => hlt y (List.mem_append_left _ hy)), ih xs ds q hr.2 h2 (fun y hy => hlt y (List.mem_append_right _ hy)), rfl⟩

/-- THE LAST STEP: the law returned true and nothing that was there has turned. -/
theorem post_below {H : Type} {enc : TypeId × Value → H} {P : Program} (hl : laidOutB P = true) {f : Func} {s : ChangeSpec} {fresh : Bool} {W W' : World} {args : Array Value} {ds gs : List (DataW H)} {before : List MemPlace} {tb : TypeId}
    (hW : DataW.Whole enc P f.params.toList s.vars false W args.toList ds gs before) (hv : s.vars = []) (hr : (f.params.toList.all fun t => P.readableRec t && decide (t < P.types.size)) = true)
    (hres : f.resultTypes = #[tb]) (hbool : P.underlying tb = some .bool) (hfn : s.fn H ds = { results := [.lit (.bool true)], args := ds }) (hb : Below W.heap.size W W') :
    s.post enc P f false fresh false false W args (.bool true) W' := by
  have hW' := hW
  obtain ⟨p, q, hA, hV, rfl, hfz, hnd⟩ := hW
  rw [hv] at hV
  obtain ⟨rfl, rfl⟩ := trodVars_none hV
  have hlt : ∀ x ∈ p, x.block < W.heap.size := fun x hx => hW'.lt x (by simpa using hx)
  refine ⟨ds, [], _, [], p, [], hW', ?_, ?_, ?_, hb.frame _, fun h => by cases h⟩
  · rw [List.append_nil, hfn, hres]
    exact trodAll_mk1 (shut_bool hbool true)
  · rw [List.append_nil, hfn]
    exact trodAll_below hl hb _ _ _ _ hr hA hlt
  · rw [List.append_nil, hfn, hv]
    rfl

/-- A sentinel that the row lists: its variable's cell. -/
theorem sentinel_cell {P : Program} {n nm : String} {text : List UInt8} {l : List (String × DataW Unit)} {W : World} {g : Nat} {ti tp te ts : TypeId} {ms : Array (String × TypeId)} {f : Field}
    (hm : laidMet P l W) (hin : (n, DataW.iface nm (.ptr (.agg [.lit (.string text)]))) ∈ l)
    (hg : P.globalNamed n = some g) (ht : (P.globals[g]?).map (·.type) = some ti) (hi : P.underlying ti = some (.interface ms)) (hrow : ∀ u, P.typeName? 3 u = some nm → u = tp)
    (hp : P.underlying tp = some (.pointer te)) (he : P.underlying te = some (.struct #[f])) (hft : f.type = ts) (hfo : f.offset = 0) (hs : P.underlying ts = some .string) (hc : P.cellsOf te = 1) (hcs : P.cellsOf ts = 1) :
    ∃ a : Addr, W.cell? ⟨g, 0, none⟩ = some (.iface tp (.pointer (some a))) := by
  induction l with
  | nil => cases hin
  | cons x r ih =>
    rcases List.mem_cons.1 hin with rfl | hin'
    · obtain ⟨a, s, hv, _⟩ := laid_sentinel hm hg ht hi hrow hp he hft hfo hs hc hcs
      exact ⟨a, by simpa using World.var?_cell hg hv 0⟩
    · exact ih hm.tail hin'

/-! ### arguments opened -/
theorem nat_u8 {x : Int} (h : (Lit.int .u8 x).wf = true) : ∃ n : Nat, x = n ∧ (n : Int) < 256 := by
  obtain ⟨h1, h2⟩ := bounds_u8 h
  exact ⟨x.toNat, by omega, by omega⟩
theorem nat_u16 {x : Int} (h : (Lit.int .u16 x).wf = true) : ∃ n : Nat, x = n ∧ (n : Int) < 65536 := by
  obtain ⟨h1, h2⟩ := bounds_u16 h
  exact ⟨x.toNat, by omega, by omega⟩
theorem nat_u32 {x : Int} (h : (Lit.int .u32 x).wf = true) : ∃ n : Nat, x = n ∧ (n : Int) < 4294967296 := by
  obtain ⟨h1, h2⟩ := bounds_u32 h
  exact ⟨x.toNat, by omega, by omega⟩
theorem nat_u64 {x : Int} (h : (Lit.int .u64 x).wf = true) : ∃ n : Nat, x = n ∧ (n : Int) < 18446744073709551616 := by
  obtain ⟨h1, h2⟩ := bounds_u64 h
  exact ⟨x.toNat, by omega, by omega⟩
theorem plain_addr {w : World} {a : Addr} {v : Value} (h : w.cell? a = some v) : a = ⟨a.block, a.off, none⟩ := by
  obtain ⟨b, o, s⟩ := a
  cases s with
  | none => rfl
  | some k =>
    exfalso
    unfold World.cell? at h
    split at h <;> simp at h
section
variable {H : Type} {enc : TypeId × Value → H} {P : Program} {W : World}
theorem rd_ints {t e : TypeId} {k : IntKind} {A : Option Addr} {n c : Nat} {d : DataW H} {p : List MemPlace} (ht : P.underlying t = some (.slice e)) (he : P.underlying e = some (.int k)) (hc : P.cellsOf e = 1)
    (h : DataW.Trod enc P W 0 (fun _ => true) true t (.slice A n c) d p) :
    ∃ zs : List Int, zs.length = n ∧ n ≤ c ∧ Rd W A (zs.map (Value.int k)) ∧ ∀ z ∈ zs, (Lit.int k z).wf = true := by
  obtain ⟨fuel, hf⟩ := h
  rcases open_ints ht he hc hf with ⟨hcs, _⟩ | ⟨a, len, cap, zs, hcs, _, hl, hm, hz, _, hcell, hwf⟩
  · simp [Value.cells] at hcs
    obtain ⟨rfl, rfl, rfl⟩ := hcs
    exact ⟨[], rfl, Nat.le_refl _, .inl rfl, by simp⟩
  · simp [Value.cells] at hcs
    obtain ⟨rfl, rfl, rfl⟩ := hcs
    simp only [if_true] at hz
    refine ⟨zs.take n, by simp; omega, hl, ?_, fun z hz' => hwf z (List.mem_of_mem_take hz')⟩
    by_cases hn : n = 0
    · subst hn; exact .inl (by simp)
    · have h0 := hcell 0 (by omega)
      have ha : a.add 0 = a := by simp [Addr.add]
      rw [ha] at h0
      have hp := plain_addr h0
      refine .inr ⟨a.block, a.off, by rw [← hp], fun j v hj => ?_⟩
      rw [List.getElem?_map, List.getElem?_take] at hj
      have hjn : j < n := by
        rcases Nat.lt_or_ge j n with h' | h'
        · exact h'
        · rw [if_neg (by omega)] at hj; simp at hj
      rw [if_pos hjn] at hj
      have hjz : j < zs.length := by omega
      have := hcell j hjz
      rw [hp, add_lit] at this
      rw [this]
      rw [List.getElem?_eq_getElem hjz] at hj
      simp at hj
      rw [← hj]
      simp [List.getD, hjz]
theorem rd_strings {t e : TypeId} {A : Option Addr} {n c : Nat} {d : DataW H} {p : List MemPlace} (ht : P.underlying t = some (.slice e)) (he : P.underlying e = some .string) (hc : P.cellsOf e = 1)
    (h : DataW.Trod enc P W 0 (fun _ => true) true t (.slice A n c) d p) :
    ∃ ls : List (List UInt8), ls.length = n ∧ n ≤ c ∧ Rd W A (ls.map fun l => Value.string (S l)) := by
  obtain ⟨fuel, hf⟩ := h
  rcases open_strings ht he hc hf with ⟨hcs, _⟩ | ⟨a, len, cap, ss, hcs, _, hl, hm, hz, _, hcell, _⟩
  · simp [Value.cells] at hcs
    obtain ⟨rfl, rfl, rfl⟩ := hcs
    exact ⟨[], rfl, Nat.le_refl _, .inl rfl⟩
  · simp [Value.cells] at hcs
    obtain ⟨rfl, rfl, rfl⟩ := hcs
    simp only [if_true] at hz
    refine ⟨(ss.take n).map fun s => s.data.toList, by simp; omega, hl, ?_⟩
    have hS : ∀ s : ByteArray, S s.data.toList = s := fun s => by obtain ⟨l, rfl⟩ := S_of s; rfl
    by_cases hn : n = 0
    · subst hn; exact .inl (by simp)
    · have h0 := hcell 0 (by omega)
      have ha : a.add 0 = a := by simp [Addr.add]
      rw [ha] at h0
      have hp := plain_addr h0
      refine .inr ⟨a.block, a.off, by rw [← hp], fun j v hj => ?_⟩
      rw [List.getElem?_map, List.getElem?_map, List.getElem?_take] at hj
      have hjn : j < n := by
        rcases Nat.lt_or_ge j n with h' | h'
        · exact h'
        · rw [if_neg (by omega)] at hj; simp at hj
      rw [if_pos hjn] at hj
      have hjz : j < ss.length := by omega
      have := hcell j hjz
      rw [hp, add_lit] at this
      rw [this]
      rw [List.getElem?_eq_getElem hjz] at hj
      simp [hS] at hj
      rw [← hj]
      simp [List.getD, hjz]
/-- The fields of a struct by value, each of one cell. -/
theorem trod_fields {t : TypeId} {fs : Array Field} {cs : Array Value} {d : DataW H} {p : List MemPlace} (ht : P.underlying t = some (.struct fs))
    (hone : ((List.range fs.size).all fun i => match fs[i]? with | some f => decide (f.offset = i) && decide (P.cellsOf f.type = 1) | none => true) = true) (hC : P.cellsOf t = fs.size)
    (h : DataW.Trod enc P W 0 (fun _ => true) true t (.agg cs) d p) :
    ∃ (ys : List (DataW H × List MemPlace)) (m : Nat), ∀ (j : Nat) (f : Field), fs[j]? = some f → ∃ v y, cs[j]? = some v ∧ ys[j]? = some y ∧ DataW.trod enc P W 0 (fun _ => true) true m f.type [v] = some y := by
  obtain ⟨fuel, hf⟩ := h
  obtain ⟨xs, n, _, _, hlen, hxs, hg⟩ := DataW.trod_struct ht hf
  refine ⟨xs, n, fun j f hj => ?_⟩
  have hjf : j < fs.size := (Array.getElem?_eq_some_iff.1 hj).1
  have ho := List.all_eq_true.1 hone j (List.mem_range.2 hjf)
  rw [hj] at ho
  simp only [Bool.and_eq_true, decide_eq_true_eq] at ho
  have h1 := hg j f hj
  rw [ho.1, ho.2] at h1
  simp only [Value.cells, Array.length_toList] at hlen h1
  have hjc : j < cs.toList.length := by simp; omega
  rw [List.drop_eq_getElem_cons hjc] at h1
  have hjx : j < xs.length := by omega
  refine ⟨cs[j]'(by simpa using hjc), xs[j], by rw [Array.getElem?_eq_getElem], List.getElem?_eq_getElem hjx, ?_⟩
  rw [List.getElem?_eq_getElem hjx] at h1
  simpa using h1
theorem field_string {e : TypeId} {cs : Array Value} {j m : Nat} {ys : List (DataW H × List MemPlace)} (he : P.underlying e = some .string)
    (h : ∃ v y, cs[j]? = some v ∧ ys[j]? = some y ∧ DataW.trod enc P W 0 (fun _ => true) true m e [v] = some y) : ∃ l, cs[j]? = some (.string (S l)) := by
  obtain ⟨v, y, h1, _, h2⟩ := h
  obtain ⟨s, hs, _, _⟩ := DataW.trod_string he h2
  obtain ⟨l, rfl⟩ := S_of s
  simp at hs
  subst hs
  exact ⟨l, h1⟩
theorem field_int {e : TypeId} {k : IntKind} {cs : Array Value} {j m : Nat} {ys : List (DataW H × List MemPlace)} (he : P.underlying e = some (.int k))
    (h : ∃ v y, cs[j]? = some v ∧ ys[j]? = some y ∧ DataW.trod enc P W 0 (fun _ => true) true m e [v] = some y) : ∃ x, cs[j]? = some (.int k x) ∧ (Lit.int k x).wf = true := by
  obtain ⟨v, y, h1, _, h2⟩ := h
  obtain ⟨x, hx, _, hw⟩ := DataW.trod_int he h2
  simp at hx
  subst hx
  exact ⟨x, h1, hw⟩
end
end Go.Cv
/- What a row gives of a variable that holds a struct of two numbers. -/
namespace Go.Cv
open Go.RowKit Go.ChangeShapes Go.WideShapes Go.ChangeAt
set_option linter.unusedVariables false
theorem pair_cell {P : Program} {n : String} {k : IntKind} {a b : Int} {l : List (String × DataW Unit)} {W : World} {g : Nat} {ti : TypeId} {f0 f1 : Field}
    (hm : laidMet P l W) (hin : (n, DataW.agg [.lit (.int k a), .lit (.int k b)]) ∈ l)
    (hg : P.globalNamed n = some g) (ht : (P.globals[g]?).map (·.type) = some ti) (hs : P.underlying ti = some (.struct #[f0, f1])) (h0 : P.underlying f0.type = some (.int k)) (h1 : P.underlying f1.type = some (.int k))
    (o0 : f0.offset = 0) (o1 : f1.offset = 1) (c0 : P.cellsOf f0.type = 1) (c1 : P.cellsOf f1.type = 1) :
    W.cell? ⟨g, 0, none⟩ = some (.int k a) ∧ W.cell? ⟨g, 1, none⟩ = some (.int k b) := by
  induction l with
  | nil => cases hin
  | cons x r ih =>
    rcases List.mem_cons.1 hin with rfl | hin'
    · obtain ⟨ps, ⟨g0, t0, cs0, fu, p0, q0, hg0, ht0, hv0, hd0, _, _⟩, _, _⟩ := hm
      obtain rfl := Option.some.inj (hg.symm.trans hg0)
      obtain rfl := Option.some.inj (ht.symm.trans ht0)
      obtain ⟨y0, y1, m, hx, _, e0, e1⟩ := trod_struct2 hs hd0
      rw [o0, c0] at e0
      rw [o1, c1] at e1
      obtain ⟨x0, q0, r0, _⟩ := DataW.trod_int h0 e0
      obtain ⟨x1, q1, r1, _⟩ := DataW.trod_int h1 e1
      subst r0 r1
      simp at hx
      obtain ⟨⟨rfl, rfl⟩, _⟩ := hx
      have u0 := World.var?_cell hg hv0 0
      have u1 := World.var?_cell hg hv0 1
      obtain ⟨L⟩ := cs0
      match L, q0, q1 with
      | z0 :: z1 :: zs, q0, q1 =>
        simp at q0 q1
        subst q0 q1
        exact ⟨by simpa using u0, by simpa using u1⟩
    · exact ih hm.tail hin'
end Go.Cv
