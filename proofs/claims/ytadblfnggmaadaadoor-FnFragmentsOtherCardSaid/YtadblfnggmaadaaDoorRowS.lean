/- Laws of the walks: rows whose elements take several cells: copy, clear, append of zeros; whether two slices overlap: no program text. -/
import Derived.Test.YtadblfnggmaadaaDoorBase
import Derived.Lib.Overlaps
import Derived.Lib.AppendZerosOnto
namespace Go.Cv
open Go.RowKit
set_option linter.unusedVariables false
theorem Own.cutS {w : World} {B sz n c : Nat} {A : Option Addr} {xs : List Value} (h : Own w B sz A n c xs) (k : Nat) (hk : k ≤ n) : Own w B sz A k c (xs.take (k * sz)) := by
  have hks : k * sz ≤ n * sz := Nat.mul_le_mul_right _ hk
  obtain ⟨h1, h2, h3, h0 | ⟨b, o, hA, hB, hc, hs, hf⟩⟩ := h
  · exact ⟨by rw [List.length_take]; omega, by omega, h3, .inl h0⟩
  · refine ⟨by rw [List.length_take]; omega, by omega, h3, .inr ⟨b, o, hA, hB, fun j v hj => ?_, hs, hf⟩⟩
    by_cases hjk : j < k * sz
    · rw [List.getElem?_take_of_lt hjk] at hj
      exact hc j v hj
    · rw [List.getElem?_eq_none (by rw [List.length_take]; omega)] at hj
      cases hj
/-- The slice is made longer: what stands behind is something. -/
theorem Own.fullS {w : World} {B sz n c : Nat} {A : Option Addr} {xs : List Value} (h : Own w B sz A n c xs) (n' : Nat) (hn : n ≤ n') (hc : n' ≤ c) : ∃ ys, Own w B sz A n' c (xs ++ ys) := by
  obtain ⟨h1, h2, h3, h0 | ⟨b, o, hA, hB, hcs, hs, hf⟩⟩ := h
  · refine ⟨[], by rw [List.append_nil, h1, show n = n' by omega], hc, h3, .inl h0⟩
  · have hns : n * sz ≤ n' * sz := Nat.mul_le_mul_right _ hn
    have hnc : n' * sz ≤ c * sz := Nat.mul_le_mul_right _ hc
    refine ⟨(List.range (n' * sz - n * sz)).map fun j => (w.cell? ⟨b, o + (n * sz + j), none⟩).getD undef, by simp; omega, hc, h3, .inr ⟨b, o, hA, hB, fun j v hj => ?_, hs, hf⟩⟩
    by_cases hjn : j < n * sz
    · rw [List.getElem?_append_left (by omega)] at hj
      exact hcs j v hj
    · rw [List.getElem?_append_right (by omega), h1] at hj
      have hl : j - n * sz < n' * sz - n * sz := by
        have := (List.getElem?_eq_some_iff.1 hj).1
        simpa using this
      obtain ⟨u, hu⟩ := Option.isSome_iff_exists.1 (hs j (by omega))
      rw [List.getElem?_map, List.getElem?_range hl] at hj
      simp at hj
      rw [show n * sz + (j - n * sz) = j by omega, hu] at hj
      rw [hu]
      simpa using hj
/-- A run of cells laid into a row of the call's own. -/
theorem Own.setCellsS {w : World} {B sz n c b o : Nat} {xs : List Value} (h : Own w B sz (some ⟨b, o, none⟩) n c xs) (ys : List Value) (k : Nat) (hk : k + ys.length ≤ n * sz) :
    Own (w.setCells b (o + k) ys) B sz (some ⟨b, o, none⟩) n c (xs.take k ++ (ys ++ xs.drop (k + ys.length))) := by
  obtain ⟨h1, h2, h3, h0 | ⟨b', o', hA, hB, hc, hs, hf⟩⟩ := h
  · have hn : n = 0 := by omega
    subst hn h0
    rw [Nat.zero_mul] at h1 hk
    have hk0 : k = 0 := by omega
    have hy : ys = [] := List.eq_nil_of_length_eq_zero (by omega)
    subst hk0 hy
    have hxs : xs = [] := List.eq_nil_of_length_eq_zero h1
    subst hxs
    exact Own.empty _ _ _ _
  · injection hA with hA
    injection hA with hb ho
    subst hb ho
    have hnc : n * sz ≤ c * sz := Nat.mul_le_mul_right _ h2
    have hin : ∀ j, j < ys.length → (w.cell? ⟨b, o + k + j, none⟩).isSome = true := fun j hj => by
      rw [Nat.add_assoc]; exact hs _ (by omega)
    have htk : (xs.take k).length = k := by simp; omega
    refine ⟨by simp; omega, h2, h3, .inr ⟨b, o, rfl, hB, fun j v hj => ?_, fun j hj => ?_, fun j hj => ?_⟩⟩
    · by_cases hj1 : k ≤ j ∧ j < k + ys.length
      · have hh := World.cell?_setCells_in b ys (o + k) w hin (j - k) (by omega)
        rw [show o + k + (j - k) = o + j by omega] at hh
        rw [List.getElem?_append_right (by simp; omega), List.getElem?_append_left (by simp; omega)] at hj
        rw [hh, ← hj, List.getElem?_eq_getElem (by omega)]
        simp [Nat.min_eq_left (show k ≤ xs.length by omega)]
      · rw [World.cell?_setCells_out b ys _ w _ (fun _ _ => by simp only; omega)]
        refine hc j v ?_
        by_cases hj2 : j < k
        · rw [List.getElem?_append_left (by simp; omega), List.getElem?_take_of_lt hj2] at hj
          exact hj
        · rw [List.getElem?_append_right (by rw [htk]; omega), List.getElem?_append_right (by rw [htk]; omega), List.getElem?_drop, htk] at hj
          rw [← hj]
          congr 1
          omega
    · exact World.isSome_setCells b ys _ w _ (hs j hj)
    · rw [World.frozen?_setCells]; exact hf j hj
theorem Own.cellS {w : World} {B sz n c b o : Nat} {xs : List Value} (h : Own w B sz (some ⟨b, o, none⟩) n c xs) (j : Nat) (hj : j < n * sz) : ∃ v, xs[j]? = some v ∧ w.cell? ⟨b, o + j, none⟩ = some v ∧ w.frozen? ⟨b, o + j, none⟩ = false := by
  obtain ⟨h1, h2, h3, h0 | ⟨b', o', hA, hB, hc, hs, hf⟩⟩ := h
  · have : n = 0 := by omega
    subst this
    omega
  · injection hA with hA
    injection hA with hb ho
    subst hb ho
    have hnc : n * sz ≤ c * sz := Nat.mul_le_mul_right _ h2
    have hl : j < xs.length := by omega
    exact ⟨xs[j], List.getElem?_eq_getElem hl, hc j _ (List.getElem?_eq_getElem hl), hf j (by omega)⟩
theorem run_copyS {P : Program} (w : World) (dT sT ty e sz : TypeId) (b o dLen dCap m m' : Nat) (A : Option Addr) (ys : List Value)
    (hu : P.underlying dT = some (.slice e)) (hs : (P.info? e).map (·.size) = some sz) (hn : ys.length = Nat.min m dLen * sz) (hr : Rd w A ys)
    (hc : ∀ j, j < ys.length → (w.cell? ⟨b, o + j, none⟩).isSome = true) (hf : ∀ j, j < ys.length → w.frozen? ⟨b, o + j, none⟩ = false) (h1 : ∀ v ∈ ys, v.oneCell' = true) :
    (Builtin.copy_ #[dT, sT] ty #[.slice (some ⟨b, o, none⟩) dLen dCap, .slice A m m']).run P w = .ok (goInt (Nat.min m dLen)) (w.setCells b o ys) := by
  have hst := run_storeCells_cells (P := P) b o ys 0 w (by simpa using hc) (by simpa using hf) h1
  cases hq : P.info? e with
  | none => simp [hq] at hs
  | some i =>
    have hi : i.size = sz := by simpa [hq] using hs
    rcases hr with hr | ⟨b2, o2, rfl, hr⟩
    · subst hr
      have h0 : Nat.min m dLen * sz = 0 := by simpa using hn.symm
      cases A with
      | none => simp [Builtin.copy_, run_underlying hu, Builtin.lenOf, Builtin.firstCells, sizeOf, typeInfo, hq, storeCells, World.setCells]
      | some a =>
        have hl := run_loadCells_list (P := P) w a [] (by simp)
        simp at hl
        simp [Builtin.copy_, run_underlying hu, Builtin.lenOf, Builtin.firstCells, sizeOf, typeInfo, hq, hi, h0, hl, storeCells, World.setCells]
    · have hl := run_loadCells_list (P := P) w ⟨b2, o2, none⟩ ys (fun j v hj => by rw [add_lit]; exact hr j v hj)
      rw [hn] at hl
      simp [Builtin.copy_, run_underlying hu, Builtin.lenOf, Builtin.firstCells, sizeOf, typeInfo, hq, hi, hl, hst]
section
variable {P : Program} {ops : Array Oper} {rest : List Oper} {o : Oper} {a : Act} {Q : Exit → Act → World → Prop} {w : World}
/-- 'copy(d, s)', d beginning at cell k of a row of the call's own. -/
theorem held_copyS (hgd : o.guard = none) (d s : Operand) (t u : TypeId) (ho : o.op = .call { callee := .builtin .copy, args := #[d, s], argTypes := #[t, u] })
    (B e sz : Nat) (ht : P.underlying t = some (.slice e)) (hi : (P.info? e).map (·.size) = some sz) {b o' k p n c n' c' m m' : Nat} {xs ys : List Value} {A : Option Addr} (hp : p = o' + k)
    (hd : a.eval d = .slice (some ⟨b, p, none⟩) n' c') (hs : a.eval s = .slice A m m') (hown : Own w B sz (some ⟨b, o', none⟩) n c xs) (hy : ys.length = Nat.min m n' * sz) (hk : k + ys.length ≤ n * sz) (hr : Rd w A ys) (h1 : ∀ v ∈ ys, v.oneCell' = true)
    (h : ∀ w', Own w' B sz (some ⟨b, o', none⟩) n c (xs.take k ++ (ys ++ xs.drop (k + ys.length))) → w.grownBy w' (some b) → wpList P ops Q rest (a.put o.dst (goInt (Nat.min m n'))) w') :
    Held (wpList P ops Q (o :: rest) a w) := by
  subst hp
  refine held (wpList_plain hgd fun K hK => ?_)
  have hrun := run_copyS (P := P) w t u o.type e sz b (o' + k) n' c' m m' A ys ht hi hy hr
    (fun j hj => by obtain ⟨v, _, hc, _⟩ := hown.cellS (k + j) (by omega); rw [Nat.add_assoc, hc]; rfl)
    (fun j hj => by obtain ⟨v, _, _, hf⟩ := hown.cellS (k + j) (by omega); rw [Nat.add_assoc]; exact hf) h1
  have hO := hown.setCellsS ys k hk
  unfold Oper.wp execOp
  simp only [ho, resolve, invoke, builtin, Sem.run_bind, Sem.run_pure, Result.andThen_ok, List.map_toArray, List.map_cons, List.map_nil, hd, hs, hrun]
  exact hK _ _ (h _ hO (grownBy_setCells w b (o' + k) ys))
/-- 'append(s, x...)', in place, into a part of a row of the call's own. -/
theorem held_append_inS (hgd : o.guard = none) (s x : Operand) (t u : TypeId) (ho : o.op = .call { callee := .builtin .append, args := #[s, x], argTypes := #[t, u] })
    (B e : Nat) (z : Value) (sz by_ : Nat) (ht : P.underlying t = some (.slice e)) (hu : P.underlying u = some (.slice e) ∨ P.underlying u = some .string)
    (hi : (P.info? e).map (fun i => (i.zero, i.size, i.bytes)) = some (some z, sz, by_)) (hsz : 0 < sz) {b q n c c' m : Nat} {xs ys : List Value} {xv : Value}
    (hs : a.eval s = .slice (some ⟨b, 0, none⟩) q c') (hx : a.eval x = xv) (hown : Own w B sz (some ⟨b, 0, none⟩) n c xs) (hsrc : Src w sz m xv ys) (hk : q + m ≤ n) (hc : q + m ≤ c')
    (h : ∀ w', Own w' B sz (some ⟨b, 0, none⟩) n c (xs.take (q * sz) ++ (ys ++ xs.drop (q * sz + ys.length))) → w.grownBy w' (some b) → wpList P ops Q rest (a.put o.dst (.slice (some ⟨b, 0, none⟩) (q + m) c')) w') :
    Held (wpList P ops Q (o :: rest) a w) := by
  refine held (wpList_plain hgd fun K hK => ?_)
  obtain ⟨i, hi1, hi2, hi3, hi4⟩ := info_parts hi
  have hL := hsrc.len (P := P)
  have hC := hsrc.cells (P := P) hsz
  have hlen : ys.length = m * sz := hsrc.1
  have hqm : q * sz + m * sz ≤ n * sz := by rw [← Nat.add_mul]; exact Nat.mul_le_mul_right _ hk
  have hst := run_storeCells_cells (P := P) b (0 + q * sz) ys 0 w
    (fun j hj => by obtain ⟨v, _, hcc, _⟩ := hown.cellS (q * sz + j) (by omega); rw [Nat.add_zero, Nat.add_assoc, hcc]; rfl)
    (fun j hj => by obtain ⟨v, _, _, hf⟩ := hown.cellS (q * sz + j) (by omega); rw [Nat.add_zero, Nat.add_assoc]; exact hf) hsrc.2.1
  rw [Nat.add_zero] at hst
  have hO := hown.setCellsS ys (q * sz) (by omega)
  rw [Nat.zero_add] at hst hO
  have hr : (Builtin.append_ #[t, u] o.type #[.slice (some ⟨b, 0, none⟩) q c', xv]).run P w = .ok (.slice (some ⟨b, 0, none⟩) (q + m) c') (w.setCells b (q * sz) ys) := by
    rcases hu with hu | hu <;> simp [Builtin.append_, run_underlying ht, run_underlying hu, sizeOf, typeInfo, hi1, hi3, hL, hC, hc, add_lit, hst]
  unfold Oper.wp execOp
  simp only [ho, resolve, invoke, builtin, Sem.run_bind, Sem.run_pure, Result.andThen_ok, List.map_toArray, List.map_cons, List.map_nil, hs, hx, hr]
  exact hK _ _ (h _ hO (grownBy_setCells w b _ ys))
/-- 'clear(s)', s without elements. -/
theorem held_clear0 (hgd : o.guard = none) (d : Operand) (t : TypeId) (ho : o.op = .call { callee := .builtin .clear, args := #[d], argTypes := #[t] })
    (e : Nat) (ht : P.underlying t = some (.slice e)) {A : Option Addr} {c' : Nat} (hd : a.eval d = .slice A 0 c') (h : wpList P ops Q rest (a.put o.dst (.tuple #[])) w) :
    Held (wpList P ops Q (o :: rest) a w) := by
  refine held (wpList_plain hgd fun K hK => ?_)
  have hrun : (Builtin.clear_ #[t] o.type #[.slice A 0 c']).run P w = .ok (.tuple #[]) w := by
    cases A <;> simp [Builtin.clear_, run_underlying ht]
  unfold Oper.wp execOp
  simp only [ho, resolve, invoke, builtin, Sem.run_bind, Sem.run_pure, Result.andThen_ok, List.map_toArray, List.map_cons, List.map_nil, hd, hrun]
  exact hK _ _ h
/-- 'clear(s)', s a part of a row of the call's own. -/
theorem held_clearS (hgd : o.guard = none) (d : Operand) (t : TypeId) (ho : o.op = .call { callee := .builtin .clear, args := #[d], argTypes := #[t] })
    (B e sz by_ : Nat) (z : Value) (ht : P.underlying t = some (.slice e)) (hi : (P.info? e).map (fun i => (i.zero, i.size, i.bytes)) = some (some z, sz, by_)) (hz : z.cells.size = sz) (hz1 : ∀ v ∈ z.cells.toList, v.oneCell' = true) (hsz : 0 < sz) {b o' k p n c n' c' : Nat} {xs : List Value} (hp : p = o' + k)
    (hd : a.eval d = .slice (some ⟨b, p, none⟩) n' c') (hown : Own w B sz (some ⟨b, o', none⟩) n c xs) (hk : k + n' * sz ≤ n * sz)
    (h : ∀ w' ys, ys.length = n' * sz → Own w' B sz (some ⟨b, o', none⟩) n c (xs.take k ++ (ys ++ xs.drop (k + ys.length))) → w.grownBy w' (some b) → wpList P ops Q rest (a.put o.dst (.tuple #[])) w') :
    Held (wpList P ops Q (o :: rest) a w) := by
  subst hp
  refine held (wpList_plain hgd fun K hK => ?_)
  obtain ⟨i, hi1, hi2, hi3, hi4⟩ := info_parts hi
  cases n' with
  | zero =>
    have hrun : (Builtin.clear_ #[t] o.type #[.slice (some ⟨b, o' + k, none⟩) 0 c']).run P w = .ok (.tuple #[]) w := by
      simp [Builtin.clear_, run_underlying ht]
    unfold Oper.wp execOp
    simp only [ho, resolve, invoke, builtin, Sem.run_bind, Sem.run_pure, Result.andThen_ok, List.map_toArray, List.map_cons, List.map_nil, hd, hrun]
    refine hK _ _ (h w [] (by simp) ?_ (World.grownBy.refl w _))
    simpa using hown
  | succ n'' =>
    have hl : (Builtin.zeroCells z.cells (n'' + 1)).toList.length = (n'' + 1) * sz := by rw [toList_zeroCells_length, hz]
    have h1 : ∀ v ∈ (Builtin.zeroCells z.cells (n'' + 1)).toList, v.oneCell' = true := fun v hv => by
      simp only [Builtin.zeroCells, Array.toList_map, List.mem_map] at hv
      obtain ⟨j, _, rfl⟩ := hv
      have hlt : j % z.cells.size < z.cells.size := Nat.mod_lt _ (by omega)
      rw [getElem!_pos z.cells _ hlt]
      exact hz1 _ (by simp)
    have hst := run_storeCells_cells (P := P) b (o' + k) (Builtin.zeroCells z.cells (n'' + 1)).toList 0 w
      (fun j hj => by obtain ⟨v, _, hc, _⟩ := hown.cellS (k + j) (by omega); rw [Nat.add_zero, Nat.add_assoc, hc]; rfl)
      (fun j hj => by obtain ⟨v, _, _, hf⟩ := hown.cellS (k + j) (by omega); rw [Nat.add_zero, Nat.add_assoc]; exact hf) h1
    rw [Nat.add_zero] at hst
    have hO := hown.setCellsS (Builtin.zeroCells z.cells (n'' + 1)).toList k (by omega)
    have hrun : (Builtin.clear_ #[t] o.type #[.slice (some ⟨b, o' + k, none⟩) (n'' + 1) c']).run P w = .ok (.tuple #[]) (w.setCells b (o' + k) (Builtin.zeroCells z.cells (n'' + 1)).toList) := by
      simp [Builtin.clear_, run_underlying ht, zeroValue, typeInfo, hi1, hi2, hst]
    unfold Oper.wp execOp
    simp only [ho, resolve, invoke, builtin, Sem.run_bind, Sem.run_pure, Result.andThen_ok, List.map_toArray, List.map_cons, List.map_nil, hd, hrun]
    exact hK _ _ (h _ _ hl hO (grownBy_setCells w b _ _))
/-- 'append(s, make([]T, k)...)', where there is no room. -/
theorem held_append_zeros (hgd : o.guard = none) (s x : Operand) (t u : TypeId) (ho : o.op = .call { callee := .builtin .append, args := #[s, x], argTypes := #[t, u] })
    (B e : Nat) (kn : IntKind) (z : Value) (sz by_ : Nat) (ht : P.underlying t = some (.slice e)) (hu : P.underlying u = some (.int kn))
    (hi : (P.info? e).map (fun i => (i.zero, i.size, i.bytes)) = some (some z, sz, by_)) (hzs : z.cells.size = sz) (hsz : 0 < sz)
    {A : Option Addr} {n c m : Nat} {xs : List Value} {kq : IntKind} (hs : a.eval s = .slice A n c) (hx : a.eval x = .int kq (m : Int)) (hown : Own w B sz A n c xs) (hm : 0 < m) (hg : c < n + m)
    (hbytes : (n + m) * by_ ≤ 140737488355328) (h63 : n + m ≤ maxLen) (hB : B ≤ w.heap.size)
    (h : ∀ c' w' ys, ys.length = m * sz → Own w' B sz (some ⟨w.heap.size, 0, none⟩) (n + m) c' (xs ++ ys) → Below w.heap.size w w' → wpList P ops Q rest (a.put o.dst (.slice (some ⟨w.heap.size, 0, none⟩) (n + m) c')) w') :
    Held (wpList P ops Q (o :: rest) a w) := by
  refine held (wpList_plain hgd fun K hK => ?_)
  obtain ⟨i, hi1, hi2, hi3, hi4⟩ := info_parts hi
  subst hi3 hi4
  have hO : (Builtin.firstCells i.size n (.slice A n c)).run P w.drew = .ok xs.toArray w.drew := Rd.load (w := w.drew) (show Rd w.drew A xs from hown.rd) i.size n n c hown.1 hsz
  have hfit := growslice_fits (need := n + m) (old := c) (bytes := i.bytes) (by omega) hbytes
  have hge := grownCap_ge w (n + m) c e
  have hcm : grownCap w (n + m) c e ≤ maxLen := grownCap_le_maxLen w (n + m) c e h63
  have hb2 : m * i.bytes ≤ 281474976710656 := by
    have := Nat.mul_le_mul_right i.bytes (show m ≤ n + m by omega)
    omega
  have hrun := Lib.run_append_grow_zeros (P := P) w t u o.type e i z kq kn ht hu hi1 hi2 A n c xs hO m hm hsz hg (by simp only [maxLen] at h63; omega) hb2 (by omega)
  have hlz : (Builtin.zeroCells z.cells m).toList.length = m * i.size := by rw [toList_zeroCells_length, hzs]
  have hlen : (xs ++ (Builtin.zeroCells z.cells m).toList).length = (n + m) * i.size := by rw [List.length_append, hown.1, hlz, Nat.add_mul]
  unfold Oper.wp execOp
  simp only [ho, resolve, invoke, builtin, Sem.run_bind, Sem.run_pure, Result.andThen_ok, List.map_toArray, List.map_cons, List.map_nil, hs, hx, hrun]
  refine hK _ _ (h _ _ _ hlz ?_ ((below_drew w).alloc (Nat.le_refl _) _))
  refine Own.new w.drew B i.size e (0, 0) _ (n + m) _ _ hlen hge hcm ?_ hB (fun j _ h => by simp at h) (fun j v hj => ?_)
  · simp only [Array.size_append, List.size_toArray, size_zeroCells, hzs, hown.1, ← Nat.add_mul]
    congr 1
    omega
  · rw [← Array.getElem?_toList]
    simp only [Array.toList_append]
    have hjl : j < (xs ++ (Builtin.zeroCells z.cells m).toList).length := (List.getElem?_eq_some_iff.1 hj).1
    rw [List.getElem?_append_left hjl]
    exact hj
end
/-- A block in which there is a cell has a shape. -/
theorem shape_of_cell {w : World} {b j : Nat} {v : Value} (h : w.cell? ⟨b, j, none⟩ = some v) : ∃ t k, w.shape? b = some (t, k) ∧ k ≠ 0 := by
  unfold World.cell? at h
  unfold World.shape?
  simp only at h
  split at h
  · rename_i c e fz he
    refine ⟨_, _, rfl, ?_⟩
    simp at h
    intro h0
    have := (Array.getElem?_eq_some_iff.1 h).1
    omega
  · cases h
/-- 'slices.overlaps': a new variable and a row. -/
theorem run_overlapsS {P : Program} (w : World) (tS tR e size : TypeId) (ht : P.underlying tS = some (.slice e)) (hz : (P.info? e).map (·.size) = some size) {x b j la ca lb cb q : Nat} {t : TypeId} {cs : Array Value} {v : Value}
    (hx : Blk w x t cs) (hne : x ≠ b) (hb : w.cell? ⟨b, j, none⟩ = some v) :
    (Extern.SlicesOverlaps.overlaps #[tS, tS] #[tR] #[.slice (some ⟨x, 0, none⟩) la ca, .slice (some ⟨b, q, none⟩) lb cb]).run P w = .ok (.bool false) w := by
  obtain ⟨tB, kB, hs, hk⟩ := shape_of_cell hb
  have hsx : w.shape? x = some (t, cs.size) := by unfold Blk at hx; simp [World.shape?, hx]
  refine Lib.run_overlaps_apart w tS tR e ht size (fun w' => ?_) ⟨x, 0, none⟩ ⟨b, q, none⟩ la ca lb cb hne t tB cs.size kB hsx hs hk (hx.frozen 0) (hx.frozen _)
  cases hq : P.info? e with
  | none => simp [hq] at hz
  | some i =>
    have hi : i.size = size := by simpa [hq] using hz
    simp [sizeOf, typeInfo, hq, hi]
end Go.Cv
