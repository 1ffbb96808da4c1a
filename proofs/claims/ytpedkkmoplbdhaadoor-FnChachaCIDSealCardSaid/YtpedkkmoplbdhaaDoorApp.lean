/- The law of append, telling besides that a new row is made only where there was no room. -/
import Derived.Test.YtpedkkmoplbdhaaDoorOps
namespace Go.Cv
open Go.RowKit
set_option linter.unusedVariables false
theorem run_append2 {P : Program} (w : World) (B : Nat) (t u ty e : TypeId) (i : TypeInfo) (z : Value) (sz by_ : Nat) (ht : P.underlying t = some (.slice e)) (hu : P.underlying u = some (.slice e) ∨ P.underlying u = some .string) (hi : P.info? e = some i) (hz : i.zero = some z)
    (hsize : i.size = sz) (hby : i.bytes = by_) (hzs : z.cells.size = sz) (hsz : 0 < sz)
    (A : Option Addr) (n c : Nat) (xs : List Value) (hown : Own w B sz A n c xs) (x : Value) (m : Nat) (ys : List Value) (hx : Src w sz m x ys)
    (hbytes : (n + m) * by_ ≤ 140737488355328) (h63 : n + m ≤ maxLen) (hB : B ≤ w.heap.size) :
    ∃ A' c' w', (Builtin.append_ #[t, u] ty #[.slice A n c, x]).run P w = .ok (.slice A' (n + m) c') w' ∧ Own w' B sz A' (n + m) c' (xs ++ ys) ∧ w.grownBy w' (A.map (·.block)) ∧
      ((A' = A ∧ c' = c) ∨ (A' = some ⟨w.heap.size, 0, none⟩ ∧ c < n + m)) := by
  subst hsize hby
  have hlen : (xs ++ ys).length = (n + m) * i.size := by rw [List.length_append, hown.1, hx.1, Nat.add_mul]
  have hsmall : n + m ≤ 9223372036854775807 := by simp only [maxLen] at h63; omega
  by_cases hroom : n + m ≤ c
  · have hL := hx.len (P := P)
    have hC := hx.cells (P := P) hsz
    obtain ⟨h1, h2, h3, h0 | ⟨b, o, rfl, hBb, hc, hs, hf⟩⟩ := hown
    · have hn0 : n = 0 := by omega
      have hm0 : m = 0 := by omega
      subst hn0 hm0 h0
      have hxs : xs = [] := List.eq_nil_of_length_eq_zero (by simpa using h1)
      have hys : ys = [] := List.eq_nil_of_length_eq_zero (by simpa using hx.1)
      subst hxs hys
      refine ⟨A, 0, w, ?_, Own.empty w B _ A, World.grownBy.refl w _, .inl ⟨rfl, rfl⟩⟩
      cases A with
      | none => rcases hu with hu | hu <;> simp [Builtin.append_, run_underlying ht, run_underlying hu, sizeOf, typeInfo, hi, hL, hC]
      | some a => rcases hu with hu | hu <;> simp [Builtin.append_, run_underlying ht, run_underlying hu, sizeOf, typeInfo, hi, hL, hC, storeCells]
    · have hlt : n * i.size + m * i.size ≤ c * i.size := by rw [← Nat.add_mul]; exact Nat.mul_le_mul_right _ hroom
      have hst := run_storeCells_cells (P := P) b (o + n * i.size) ys 0 w
        (fun j hj => by rw [hx.1] at hj; rw [Nat.add_zero, Nat.add_assoc]; exact hs _ (by omega))
        (fun j hj => by rw [hx.1] at hj; rw [Nat.add_zero, Nat.add_assoc]; exact hf _ (by omega)) hx.2.1
      rw [Nat.add_zero] at hst
      refine ⟨some ⟨b, o, none⟩, c, w.setCells b (o + n * i.size) ys, ?_, ⟨hlen, hroom, h3, .inr ⟨b, o, rfl, hBb, fun j v hj => ?_, fun j hj => ?_, fun j hj => ?_⟩⟩, grownBy_setCells w b _ ys, .inl ⟨rfl, rfl⟩⟩
      · rcases hu with hu | hu <;> simp [Builtin.append_, run_underlying ht, run_underlying hu, sizeOf, typeInfo, hi, hL, hC, hroom, add_lit, hst]
      · rw [List.getElem?_append] at hj
        split at hj
        · rename_i hjx
          rw [World.cell?_setCells_out b ys _ w _ (fun _ _ => .inl (by simp only; rw [h1] at hjx; omega))]
          exact hc j v hj
        · rename_i hjx
          rw [h1] at hjx hj
          have hjy : j - n * i.size < ys.length := (List.getElem?_eq_some_iff.1 hj).1
          have := World.cell?_setCells_in b ys (o + n * i.size) w (fun k hk => by rw [hx.1] at hk; rw [Nat.add_assoc]; exact hs _ (by omega)) (j - n * i.size) hjy
          rw [show o + n * i.size + (j - n * i.size) = o + j by omega] at this
          rw [this, ← hj, List.getElem?_eq_getElem hjy]
      · by_cases hin : n * i.size ≤ j ∧ j < n * i.size + ys.length
        · have := World.cell?_setCells_in b ys (o + n * i.size) w (fun k hk => by rw [hx.1] at hk; rw [Nat.add_assoc]; exact hs _ (by omega)) (j - n * i.size) (by omega)
          rw [show o + n * i.size + (j - n * i.size) = o + j by omega] at this
          rw [this]; rfl
        · rw [World.cell?_setCells_out b ys _ w _ (fun _ _ => by simp only; omega)]
          exact hs j hj
      · rw [World.frozen?_setCells]; exact hf j hj
  · have hL := hx.len (P := P)
    have hC := hx.drew.cells (P := P) hsz
    have hO : (Builtin.firstCells i.size n (.slice A n c)).run P w.drew = .ok xs.toArray w.drew := Rd.load (w := w.drew) (show Rd w.drew A xs from hown.rd) i.size n n c hown.1 hsz
    have h63' : ¬ (9223372036854775807 < ((n : Int) + (m : Int))) := by omega
    have hfit := growslice_fits (need := n + m) (old := c) (bytes := i.bytes) (by omega) hbytes
    have h48' : ¬ (281474976710656 < Builtin.nextslicecap (n + m) c * i.bytes) := by omega
    have hge := grownCap_ge w (n + m) c e
    have hcm : grownCap w (n + m) c e ≤ maxLen := grownCap_le_maxLen w (n + m) c e h63
    have hsc : (xs.toArray ++ ys.toArray ++ Builtin.zeroCells z.cells (grownCap w (n + m) c e - (n + m))).size = grownCap w (n + m) c e * i.size := by
      simp only [Array.size_append, List.size_toArray, size_zeroCells, hzs, hown.1, hx.1, ← Nat.add_mul]
      congr 1
      omega
    refine ⟨some ⟨w.heap.size, 0, none⟩, grownCap w (n + m) c e, w.drew.alloc (.cells (xs.toArray ++ ys.toArray ++ Builtin.zeroCells z.cells (grownCap w (n + m) c e - (n + m))) e), ?_, ?_, ?_, .inr ⟨rfl, Nat.lt_of_not_le hroom⟩⟩
    · rcases hu with hu | hu <;> simp [Builtin.append_, run_underlying ht, run_underlying hu, sizeOf, typeInfo, zeroValue, hi, hz, hL, hroom, h63', h48', Question.forced, hC, hO, newRow, grownCap] <;> (congr 2; apply Array.ext'; simp [List.append_assoc])
    · refine Own.new w.drew B i.size e (0, 0) _ (n + m) _ _ hlen hge hcm hsc hB (fun j _ h => by simp at h) (fun j v hj => ?_)
      rw [← Array.getElem?_toList]
      simp only [Array.toList_append]
      have hjl : j < (xs ++ ys).length := (List.getElem?_eq_some_iff.1 hj).1
      rw [List.getElem?_append_left hjl]
      exact hj
    · exact ⟨rfl, rfl, rfl, by simp, fun k hk _ => heap_alloc_old w.drew _ hk⟩

section
variable {P : Program} {ops : Array Oper} {rest : List Oper} {o : Oper} {a : Act} {Q : Exit → Act → World → Prop} {w : World}
theorem held_append2 (hgd : o.guard = none) (s x : Operand) (t u : TypeId) (ho : o.op = .call { callee := .builtin .append, args := #[s, x], argTypes := #[t, u] })
    (B e : Nat) (z : Value) (sz by_ : Nat) (ht : P.underlying t = some (.slice e)) (hu : P.underlying u = some (.slice e) ∨ P.underlying u = some .string)
    (hi : (P.info? e).map (fun i => (i.zero, i.size, i.bytes)) = some (some z, sz, by_)) (hzs : z.cells.size = sz) (hsz : 0 < sz)
    {A : Option Addr} {n c m : Nat} {xs ys : List Value} {xv : Value} (hs : a.eval s = .slice A n c) (hx : a.eval x = xv) (hown : Own w B sz A n c xs) (hsrc : Src w sz m xv ys)
    (hbytes : (n + m) * by_ ≤ 140737488355328) (h63 : n + m ≤ maxLen) (hB : B ≤ w.heap.size)
    (h : ∀ A' c' w', Own w' B sz A' (n + m) c' (xs ++ ys) → w.grownBy w' (A.map (·.block)) → ((A' = A ∧ c' = c) ∨ (A' = some ⟨w.heap.size, 0, none⟩ ∧ c < n + m)) → wpList P ops Q rest (a.put o.dst (.slice A' (n + m) c')) w') :
    Held (wpList P ops Q (o :: rest) a w) := by
  refine held (wpList_plain hgd fun K hK => ?_)
  obtain ⟨i, hi1, hi2, hi3, hi4⟩ := info_parts hi
  obtain ⟨A', c', w', hr, h2, h3, h4⟩ := run_append2 (P := P) w B t u o.type e i z sz by_ ht hu hi1 hi2 hi3 hi4 hzs hsz A n c xs hown xv m ys hsrc hbytes h63 hB
  unfold Oper.wp execOp
  simp only [ho, resolve, invoke, builtin, Sem.run_bind, Sem.run_pure, Result.andThen_ok, List.map_toArray, List.map_cons, List.map_nil, hs, hx, hr]
  exact hK _ _ (h A' c' w' h2 h3 h4)
end
end Go.Cv
