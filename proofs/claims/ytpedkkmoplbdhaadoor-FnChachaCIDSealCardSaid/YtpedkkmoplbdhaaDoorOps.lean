/- Laws of our own at single operations: conversions, append, make, slices, copy: no program text. -/
import Derived.Test.YtpedkkmoplbdhaaDoorKit
namespace Go.Cv
open Go.RowKit

theorem held {p : Prop} (h : p) : Held p := h

section
variable {P : Program} {o : Oper} {a : Act} {K : Act → World → Prop} {Q : Exit → Act → World → Prop} {w : World}

/-- '[]byte(s)'. -/
theorem upon_conv_sb (t1 t2 e : TypeId) (hs : P.underlying t1 = some .string) (hd : P.underlying t2 = some (.slice e)) (he : P.underlying e = some (.int .u8)) (l : List UInt8) (hl : l.length ≤ maxLen)
    (h : ∀ c w1, Own w1 w.heap.size 1 (some ⟨w.heap.size, 0, none⟩) l.length c (vs l) → Below w.heap.size w w1 → w.heap.size < w1.heap.size → K (a.put o.dst (.slice (some ⟨w.heap.size, 0, none⟩) l.length c)) w1) :
    Oper.upon P o a K Q ((Sem.run P (convert t1 t2 (.string (S l))) w).andThen fun a w' => .ok (.value a) w') := by
  rw [run_bytes_of_string w t1 t2 e (S l) hs hd he]
  show K (a.put o.dst _) _
  rw [S_size]
  have hge := grownCap_ge w l.length 0 e
  have hcm := grownCap_le_maxLen w l.length 0 e hl
  generalize grownCap w l.length 0 e = c at *
  have hsz : (bytesRow (S l) c).size = c := by
    simp only [bytesRow, Array.size_append, Array.size_map, Array.size_replicate]
    have : (S l).data.size = l.length := by simp [S]
    rw [this, S_size]; omega
  refine h c _ (Own.new w.drew w.heap.size 1 e _ _ l.length c (vs l) (by rw [vs_length]; omega) hge hcm (by rw [hsz]; omega) (by simp) (fun j hj hh => ?_) (fun j v hj => ?_)) ?_ (by simp)
  · rw [hsz] at hh; simp at hh; omega
  · have hjl : j < (vs l).length := (List.getElem?_eq_some_iff.1 hj).1
    rw [vs_length] at hjl
    simp only [bytesRow]
    rw [Array.getElem?_append_left (by simp [S]; exact hjl)]
    rw [vs_get l j hjl] at hj
    injection hj with hj
    subst hj
    simp [S, List.getD, hjl]
  · exact ((Below.refl _ w).drew).alloc (by simp) _

/-- 'string(b)'. -/
theorem strOfNums_vs (l : List UInt8) : ByteArray.mk ((l.map fun b => UInt8.ofNat (Int.toNat (b.toNat : Int))).toArray) = S l := by
  simp [S]
theorem run_conv_bs (w : World) (t1 t2 e : TypeId) (hs : P.underlying t1 = some (.slice e)) (he : P.underlying e = some (.int .u8)) (hd : P.underlying t2 = some .string) (l : List UInt8) (A : Option Addr) (n c : Nat) (hn : l.length = n) (hr : Rd w A (vs l)) :
    (convert t1 t2 (.slice A n c)).run P w = .ok (.string (S l)) w := by
  rw [run_convert_bytes_string w t1 t2 e _ n c hs he hd]
  cases A with
  | none =>
    rcases hr with h | ⟨b, o, hA, _⟩
    · have : l = [] := by simpa [vs] using h
      subst this
      simp [Conv.bytesToString]
      rfl
    · cases hA
  | some ad =>
    have hl : (loadCells ad n).run P w = .ok ((l.map fun b => (b.toNat : Int)).map (Value.int .u8)).toArray w := by
      have hc : ∀ (j : Nat) (v : Value), (vs l)[j]? = some v → w.cell? (ad.add j) = some v := by
        intro j v hj
        rcases hr with h | ⟨b, o, hA, hc⟩
        · rw [h] at hj; simp at hj
        · injection hA with hA; subst hA
          rw [add_lit]; exact hc j v hj
      have := run_loadCells_list (P := P) w ad (vs l) hc
      rw [vs_length, hn] at this
      rw [this]
      simp [vs, List.map_map, Function.comp_def]
    rw [run_bytesToString w ad n c _ hl, foldl_push_bytes]
    simp [ByteArray.empty, ByteArray.emptyWithCapacity, S, List.map_map, Function.comp_def]
    rfl
theorem upon_conv_bs (t1 t2 e : TypeId) (hs : P.underlying t1 = some (.slice e)) (he : P.underlying e = some (.int .u8)) (hd : P.underlying t2 = some .string) (l : List UInt8) (A : Option Addr) (n c : Nat) (hn : l.length = n) (hr : Rd w A (vs l))
    (h : K (a.put o.dst (.string (S l))) w) :
    Oper.upon P o a K Q ((Sem.run P (convert t1 t2 (.slice A n c)) w).andThen fun a w' => .ok (.value a) w') := by
  rw [run_conv_bs w t1 t2 e hs he hd l A n c hn hr]
  exact h
end

section
variable {P : Program} {ops : Array Oper} {rest : List Oper} {o : Oper} {a : Act} {Q : Exit → Act → World → Prop} {w : World}
/-- 'append(s, x...)'. -/
theorem held_append (hgd : o.guard = none) (s x : Operand) (t u : TypeId) (ho : o.op = .call { callee := .builtin .append, args := #[s, x], argTypes := #[t, u] })
    (B e : Nat) (z : Value) (sz by_ : Nat) (ht : P.underlying t = some (.slice e)) (hu : P.underlying u = some (.slice e) ∨ P.underlying u = some .string)
    (hi : (P.info? e).map (fun i => (i.zero, i.size, i.bytes)) = some (some z, sz, by_)) (hzs : z.cells.size = sz) (hsz : 0 < sz)
    {A : Option Addr} {n c m : Nat} {xs ys : List Value} {xv : Value} (hs : a.eval s = .slice A n c) (hx : a.eval x = xv) (hown : Own w B sz A n c xs) (hsrc : Src w sz m xv ys)
    (hbytes : (n + m) * by_ ≤ 140737488355328) (h63 : n + m ≤ maxLen) (hB : B ≤ w.heap.size)
    (h : ∀ A' c' w', Own w' B sz A' (n + m) c' (xs ++ ys) → w.grownBy w' (A.map (·.block)) → ((A' = A ∧ c' = c) ∨ A' = some ⟨w.heap.size, 0, none⟩) → wpList P ops Q rest (a.put o.dst (.slice A' (n + m) c')) w') :
    Held (wpList P ops Q (o :: rest) a w) := by
  refine held (wpList_plain hgd fun K hK => ?_)
  obtain ⟨i, hi1, hi2, hi3, hi4⟩ := info_parts hi
  obtain ⟨A', c', w', hr, h2, h3, h4⟩ := run_append (P := P) w B t u o.type e i z sz by_ ht hu hi1 hi2 hi3 hi4 hzs hsz A n c xs hown xv m ys hsrc hbytes h63 hB
  unfold Oper.wp execOp
  simp only [ho, resolve, invoke, builtin, Sem.run_bind, Sem.run_pure, Result.andThen_ok, List.map_toArray, List.map_cons, List.map_nil, hs, hx, hr]
  exact hK _ _ (h A' c' w' h2 h3 h4)
end

/-- The frame of 'grownBy' over a row of the call's own. -/
theorem below_grown {B : Nat} {w w' : World} {sz n c : Nat} {A : Option Addr} {xs : List Value} (hg : w.grownBy w' (A.map (·.block))) (hown : Own w B sz A n c xs) (hB : B ≤ w.heap.size) (hc : c = 0 → A = none ∨ ∃ b o, A = some ⟨b, o, none⟩ ∧ B ≤ b) : Below B w w' := by
  refine (Below.refl B w).grown hg hB fun k hk => ?_
  rcases hown.2.2.2 with h0 | ⟨b, o, rfl, hBb, _⟩
  · rcases hc h0 with rfl | ⟨b, o, rfl, hBb⟩
    · simp at hk
    · simp at hk; omega
  · simp at hk; omega
/-! ### a store into a row of the call's own -/
theorem Own.set {w : World} {B n c : Nat} {b o : Nat} {xs : List Value} (h : Own w B 1 (some ⟨b, o, none⟩) n c xs) (j : Nat) (hj : j < n) (u : Value) :
    Own (w.setCell ⟨b, o + j, none⟩ u) B 1 (some ⟨b, o, none⟩) n c (xs.set j u) := by
  obtain ⟨h1, h2, h3, h0 | ⟨b', o', hA, hB, hc, hs, hf⟩⟩ := h
  · omega
  · injection hA with hA; injection hA with e1 e2; subst e1 e2
    obtain ⟨v0, hv0⟩ := Option.isSome_iff_exists.1 (hs j (by omega))
    refine ⟨by simpa using h1, h2, h3, .inr ⟨b, o, rfl, hB, fun i v hi => ?_, fun i hi => ?_, fun i hi => ?_⟩⟩
    · by_cases hij : i = j
      · subst hij
        rw [World.cell?_setCell_same _ _ _ hv0]
        rw [List.getElem?_set] at hi
        simp at hi
        rw [hi.2]
      · rw [World.cell?_setCell_other _ _ _ _ (by intro e; injection e; omega)]
        rw [List.getElem?_set, if_neg (by omega)] at hi
        exact hc i v hi
    · by_cases hij : i = j
      · subst hij
        rw [World.cell?_setCell_same _ _ _ hv0]; rfl
      · rw [World.cell?_setCell_other _ _ _ _ (by intro e; injection e; omega)]
        exact hs i hi
    · rw [World.frozen?_setCell]; exact hf i hi
theorem Own.at_ {w : World} {B n c : Nat} {b o : Nat} {xs : List Value} (h : Own w B 1 (some ⟨b, o, none⟩) n c xs) (j : Nat) (hj : j < n) :
    ∃ v, xs[j]? = some v ∧ w.cell? ⟨b, o + j, none⟩ = some v ∧ w.frozen? ⟨b, o + j, none⟩ = false := by
  obtain ⟨h1, h2, h3, h0 | ⟨b', o', hA, hB, hc, hs, hf⟩⟩ := h
  · omega
  · injection hA with hA; injection hA with e1 e2; subst e1 e2
    have hl : j < xs.length := by omega
    exact ⟨xs[j], List.getElem?_eq_getElem hl, hc j _ (List.getElem?_eq_getElem hl), hf j (by omega)⟩


/-! ### make -/
theorem run_make_any {P : Program} (w : World) (t e : TypeId) (z : Value) (sz by_ : Nat) (ht : P.underlying t = some (.slice e)) (hi : (P.info? e).map (fun i => (i.zero, i.size, i.bytes)) = some (some z, sz, by_)) (hzs : z.cells.size = sz)
    (kl kc : IntKind) (l c : Int) (n m : Nat) (hl : l = n) (hc : c = m) (hnm : n ≤ m) (hb : by_ * m ≤ 281474976710656) (h63 : m ≤ maxLen) :
    (Instr.makeSlice t (.int kl l) (.int kc c)).run P w = .ok (.slice (some ⟨w.heap.size, 0, none⟩) n m) (w.alloc (.cells (madeCells z.cells (m * sz)) e)) := by
  obtain ⟨i, hi1, hi2, hi3, hi4⟩ := info_parts hi
  subst hl hc hi3 hi4
  have h := run_make (P := P) w t e i z ht hi1 hi2 kl kc n m (by omega) (by omega) (by rw [← Int.natCast_mul]; omega) (by simp only [maxLen] at h63; omega)
  simpa using h
theorem made_one (z : Value) (n : Nat) (hz : z.cells.size = 1) : (madeCells z.cells n).toList = List.replicate n z.cells[0]! := by
  have : z.cells = #[z.cells[0]!] := by
    apply Array.ext
    · simp [hz]
    · intro i h1 h2
      have : i = 0 := by omega
      subst this
      simp [h1]
  rw [this, toList_madeCells_one]
  simp
theorem own_made (w : World) (e : TypeId) (z : Value) (n m : Nat) (hz : z.cells = #[z]) (hnm : n ≤ m) (h63 : m ≤ maxLen) :
    Own (w.alloc (.cells (madeCells z.cells (m * 1)) e)) w.heap.size 1 (some ⟨w.heap.size, 0, none⟩) n m (List.replicate n z) := by
  refine Own.new w w.heap.size 1 e (0, 0) _ n m _ (by simp) hnm h63 (by rw [size_madeCells]) (Nat.le_refl _) (fun j _ h => by simp at h) (fun j v hj => ?_)
  rw [Nat.mul_one, ← Array.getElem?_toList, made_one z m (by rw [hz]; rfl), hz]
  have hjn : j < n := by
    have := (List.getElem?_eq_some_iff.1 hj).1
    simpa using this
  rw [List.getElem?_replicate] at hj ⊢
  rw [if_pos hjn] at hj
  rw [if_pos (by omega)]
  exact hj
section
variable {P : Program} {o : Oper} {a : Act} {K : Act → World → Prop} {Q : Exit → Act → World → Prop} {w : World}
/-- 'make([]T, n, m)', T of one cell. -/
theorem upon_make (t e : TypeId) (z : Value) (by_ : Nat) (ht : P.underlying t = some (.slice e)) (hi : (P.info? e).map (fun i => (i.zero, i.size, i.bytes)) = some (some z, 1, by_)) (hz : z.cells = #[z])
    {kl kc : IntKind} {l c : Int} (n m : Nat) (hl : l = n) (hc : c = m) (hnm : n ≤ m) (hb : by_ * m ≤ 281474976710656) (h63 : m ≤ maxLen)
    (h : ∀ w1, Own w1 w.heap.size 1 (some ⟨w.heap.size, 0, none⟩) n m (List.replicate n z) → Below w.heap.size w w1 → w1.heap.size = w.heap.size + 1 → K (a.put o.dst (.slice (some ⟨w.heap.size, 0, none⟩) n m)) w1) :
    Oper.upon P o a K Q ((Sem.run P (Instr.makeSlice t (.int kl l) (.int kc c)) w).andThen fun a w' => .ok (.value a) w') := by
  rw [run_make_any w t e z 1 by_ ht hi (by rw [hz]; rfl) kl kc l c n m hl hc hnm hb h63]
  exact h _ (own_made w e z n m hz hnm h63) ((Below.refl _ w).alloc (Nat.le_refl _) _) (by simp)
end
theorem run_add {P : Program} (l k : List UInt8) (h : l.length + k.length ≤ 9223372036854775807) (w : World) : (Op.stringOp .add (S l) (S k)).run P w = .ok (.string (S (l ++ k))) w := by
  rw [run_string_add_sum w _ _ (by rw [S_size, S_size]; exact h), S_append]
theorem run_add_eq {P : Program} (l k m : List UInt8) (he : l ++ k = m) (h : m.length ≤ 9223372036854775807) (w : World) : (Op.stringOp .add (S l) (S k)).run P w = .ok (.string (S m)) w := by
  subst he
  exact run_add l k (by rw [← List.length_append]; exact h) w
theorem below_undrew {B : Nat} {w w2 : World} (h : Below B w.drew w2) : Below B w w2 := ⟨h.os, h.tape, h.output, h.size, h.block⟩
/-- Two callees, one behind the other. -/
theorem below_two {w w1 w2 : World} (h1 : Below w.heap.size w w1) (h2 : Below w1.heap.size w1 w2) : Below w.heap.size w w2 := h1.trans (h2.mono h1.size)

/-! ### blocks known whole; struct results -/
def Blk (w : World) (g : Nat) (t : TypeId) (cs : Array Value) : Prop := w.heap[g]? = some (.cells cs t (0, 0))
theorem Blk.lt {w : World} {g : Nat} {t : TypeId} {cs : Array Value} (h : Blk w g t cs) : g < w.heap.size := by
  rcases Nat.lt_or_ge g w.heap.size with hlt | hge
  · exact hlt
  · unfold Blk at h; rw [Array.getElem?_eq_none hge] at h; cases h
theorem Blk.cell {w : World} {g : Nat} {t : TypeId} {cs : Array Value} (h : Blk w g t cs) (i : Nat) : w.cell? ⟨g, i, none⟩ = cs[i]? := cell_of_row w g i cs t (0, 0) h
theorem Blk.frozen {w : World} {g : Nat} {t : TypeId} {cs : Array Value} (h : Blk w g t cs) (i : Nat) : w.frozen? ⟨g, i, none⟩ = false := by
  unfold Blk at h; simp [World.frozen?, h]
theorem Blk.new (w : World) (t : TypeId) (cs : Array Value) : Blk (w.alloc (.cells cs t)) w.heap.size t cs := heap_alloc_new w _
theorem Blk.keep {w w' : World} {g : Nat} {t : TypeId} {cs : Array Value} (h : Blk w g t cs) (hb : Below w.heap.size w w') : Blk w' g t cs := (hb.block g h.lt).trans h
theorem Blk.below {w w' : World} {B g : Nat} {t : TypeId} {cs : Array Value} (h : Blk w g t cs) (hb : Below B w w') (hg : g < B) : Blk w' g t cs := (hb.block g hg).trans h
theorem Blk.alloc {w : World} {g : Nat} {t : TypeId} {cs : Array Value} (h : Blk w g t cs) (o : Obj) : Blk (w.alloc o) g t cs := h.keep ((Below.refl _ w).alloc (Nat.le_refl _) o)
theorem Blk.grown {w w' : World} {g : Nat} {t : TypeId} {cs : Array Value} {row : Option Nat} (h : Blk w g t cs) (hg : w.grownBy w' row) (hne : some g ≠ row) : Blk w' g t cs := (hg.block g h.lt hne).trans h
theorem Blk.setRow {w : World} {g : Nat} {t : TypeId} {cs : Array Value} (h : Blk w g t cs) (ds : Array Value) : Blk (w.setRow g ds) g t ds := setRow_heap w g cs ds t (0, 0) h
theorem Blk.set_ {w : World} {g : Nat} {t : TypeId} {cs : Array Value} (h : Blk w g t cs) (i : Nat) (u : Value) : Blk (w.setCell ⟨g, i, none⟩ u) g t (cs.setIfInBounds i u) := by
  unfold Blk at h ⊢
  simp [World.setCell, Array.getElem?_modify, h]
theorem below_setRow' {B g : Nat} {w0 w : World} (hb : Below B w0 w) (hBg : B ≤ g) (cs : Array Value) : Below B w0 (w.setRow g cs) := below_setRow hb hBg cs
section
variable {P : Program} {fn : Func} {R : Ending → World → Prop} {a : Act} {w : World}
/-- 'return x', x a named result that lies in memory. -/
theorem bodyPost_cell {p : Tmp} {ty : TypeId} (h : fn.results = #[.cell p ty]) (hd : a.defers = []) {g : Nat} {t : TypeId} {cs : Array Value} {fs : Array Field} (hp : a.tmps.getD p undef = .pointer (some ⟨g, 0, none⟩)) (hg : Blk w g t cs)
    (hu : P.underlying ty = some (.struct fs)) (hi : (P.info? ty).map (·.size) = some cs.size) (hR : R (.returned (.agg cs)) w) : bodyPost P fn R .ret a w :=
  bodyPost_ret (results_cell_row h a.tmps w g t cs (0, 0) _ hp hg hu rfl hi) hd hR
theorem bodyPost_cell2 {p u : Tmp} {ty : TypeId} (h : fn.results = #[.cell p ty, .tmp u]) (hd : a.defers = []) {g : Nat} {t : TypeId} {cs : Array Value} {fs : Array Field} (hp : a.tmps.getD p undef = .pointer (some ⟨g, 0, none⟩)) (hg : Blk w g t cs)
    (hu : P.underlying ty = some (.struct fs)) (hi : (P.info? ty).map (·.size) = some cs.size) (hR : R (.returned (.tuple #[.agg cs, a.tmps.getD u undef])) w) : bodyPost P fn R .ret a w := by
  refine bodyPost_ret ?_ hd hR
  rw [results_cell_tmp h, hp]
  simp only [asAddr, Sem.run_pure, Result.andThen_ok]
  rw [run_loadVar_row w g t ty cs (0, 0) _ hg hu rfl hi]
  rfl
end

/-! ### the walk stands still ahead of an operation of a kind -/
section
variable {P : Program} {ops : Array Oper} {rest : List Oper} {a : Act} {Q : Exit → Act → World → Prop} {w : World} {dst : Option Tmp} {ty0 : TypeId} {pos : String} {after : Array Edge}
theorem Held.store (ty : TypeId) {x y : Operand} (h : Held (wpList P ops Q ({ dst := dst, op := .store ty x y, type := ty0, pos := pos, after := after, guard := none } :: rest) a w)) :
    wpList P ops Q ({ dst := dst, op := .store ty x y, type := ty0, pos := pos, after := after, guard := none } :: rest) a w := h
theorem Held.load (ty : TypeId) {x : Operand} (h : Held (wpList P ops Q ({ dst := dst, op := .load ty x, type := ty0, pos := pos, after := after, guard := none } :: rest) a w)) :
    wpList P ops Q ({ dst := dst, op := .load ty x, type := ty0, pos := pos, after := after, guard := none } :: rest) a w := h
theorem Held.copy {args : Array Operand} {ats : Array TypeId} (h : Held (wpList P ops Q ({ dst := dst, op := .call { callee := .builtin .copy, args := args, argTypes := ats }, type := ty0, pos := pos, after := after, guard := none } :: rest) a w)) :
    wpList P ops Q ({ dst := dst, op := .call { callee := .builtin .copy, args := args, argTypes := ats }, type := ty0, pos := pos, after := after, guard := none } :: rest) a w := h
theorem grownBy_setRow (w : World) (g : Nat) (cs : Array Value) : w.grownBy (w.setRow g cs) (some g) :=
  ⟨rfl, rfl, rfl, by simp, fun k _ hk => setRow_other w g k cs (fun e => hk (by rw [e]))⟩
/-- '*p = v', v a whole struct: the world behind it is a letter. -/
theorem held_store_row {ty : TypeId} {x y : Operand} {g : Nat} {cells : Array Value} {t : TypeId} {old : Array Value} (hg : Blk w g t old) (hi : (P.info? ty).map (·.size) = some cells.size)
    (hx : a.eval x = .pointer (some ⟨g, 0, none⟩)) (hy : a.eval y = .agg cells) (hold : old.size = cells.size) (h1 : cells.all (·.oneCell') = true)
    (h : ∀ w', Blk w' g t cells → w.grownBy w' (some g) → w'.heap.size = w.heap.size → wpList P ops Q rest (a.put dst undef) w') :
    Held (wpList P ops Q ({ dst := dst, op := .store ty x y, type := ty0, pos := pos, after := after, guard := none } :: rest) a w) :=
  held (wpList_store_row rfl ty x y rfl g cells hx hy t old hg hi hold h1 (h _ (hg.setRow cells) (grownBy_setRow w g cells) (by simp)))
/-- .. into a variable that was made just before. -/
theorem held_store_new {W : World} {ty : TypeId} {x y : Operand} {cells : Array Value} {t : TypeId} {old : Array Value} (hi : (P.info? ty).map (·.size) = some cells.size)
    (hx : a.eval x = .pointer (some ⟨W.heap.size, 0, none⟩)) (hy : a.eval y = .agg cells) (hold : old.size = cells.size) (h1 : cells.all (·.oneCell') = true)
    (h : ∀ w', Blk w' W.heap.size t cells → Below W.heap.size W w' → w'.heap.size = W.heap.size + 1 → wpList P ops Q rest (a.put dst undef) w') :
    Held (wpList P ops Q ({ dst := dst, op := .store ty x y, type := ty0, pos := pos, after := after, guard := none } :: rest) a (W.alloc (.cells old t))) :=
  held_store_row (Blk.new W t old) hi hx hy hold h1 fun w' hk hg hs => h w' hk (((Below.refl _ W).alloc (Nat.le_refl _) _).grown hg (by simp) (fun k hk' => by simp at hk'; omega)) (by rw [hs]; simp)
theorem held_load_row {ty : TypeId} {x : Operand} {g : Nat} {t : TypeId} {cs : Array Value} {fs : Array Field} (hg : Blk w g t cs) (hu : P.underlying ty = some (.struct fs)) (hi : (P.info? ty).map (·.size) = some cs.size)
    (hx : a.eval x = .pointer (some ⟨g, 0, none⟩)) (h : wpList P ops Q rest (a.put dst (.agg cs)) w) :
    Held (wpList P ops Q ({ dst := dst, op := .load ty x, type := ty0, pos := pos, after := after, guard := none } :: rest) a w) :=
  held (wpList_load_row rfl ty x rfl g hx t cs (0, 0) _ hg hu rfl hi h)
end

section
variable {P : Program} {ops : Array Oper} {rest : List Oper} {a : Act} {Q : Exit → Act → World → Prop} {w : World} {dst : Option Tmp} {ty0 : TypeId} {pos : String} {after : Array Edge} {gd : Nat × Bool}
/-- The same behind a guard. -/
theorem Held.loadg (ty : TypeId) {x : Operand} (h : Held (wpList P ops Q ({ dst := dst, op := .load ty x, type := ty0, pos := pos, after := after, guard := some gd } :: rest) a w)) :
    wpList P ops Q ({ dst := dst, op := .load ty x, type := ty0, pos := pos, after := after, guard := some gd } :: rest) a w := h
theorem held_loadg_row {ty : TypeId} {x : Operand} {g : Nat} {t : TypeId} {cs : Array Value} {fs : Array Field} (hg : Blk w g t cs) (hu : P.underlying ty = some (.struct fs)) (hi : (P.info? ty).map (·.size) = some cs.size)
    (hw : yielded ops a.tmps gd.1 = some gd.2)
    (hx : a.eval x = .pointer (some ⟨g, 0, none⟩)) (h : wpList P ops Q rest (a.put dst (.agg cs)) w) :
    Held (wpList P ops Q ({ dst := dst, op := .load ty x, type := ty0, pos := pos, after := after, guard := some gd } :: rest) a w) :=
  held (BigFrame.wpList_want (by simp [Region.wanted, hw]) fun _ hK => wp_load_row ty x rfl g hx t cs (0, 0) _ hg hu rfl hi (hK _ _ h))
end
end Go.Cv
