/- Laws of the walks: append as one step of a region that draws its order. -/
import Derived.Test.YtpedkkmoplbdhaaDoorOps5
import Derived.Test.YtpedkkmoplbdhaaDoorStrK
import Derived.Deep.RegionLaw
namespace Go.Cv
open Go.RowKit
set_option linter.unusedVariables false
/-- 'append(s, x...)', one step. -/
theorem step_append {P : Program} {ops : Array Oper} {o : Oper} {a : Act} {w : World} {K : Act → World → Prop} {Q : Exit → Act → World → Prop} {E : Prop}
    (hgd : o.guard = none) (s x : Operand) (t u : TypeId) (ho : o.op = .call { callee := .builtin .append, args := #[s, x], argTypes := #[t, u] })
    (B e : Nat) (z : Value) (sz by_ : Nat) (ht : P.underlying t = some (.slice e)) (hu : P.underlying u = some (.slice e) ∨ P.underlying u = some .string)
    (hi : (P.info? e).map (fun i => (i.zero, i.size, i.bytes)) = some (some z, sz, by_)) (hzs : z.cells.size = sz) (hsz : 0 < sz)
    {A : Option Addr} {n c m : Nat} {xs ys : List Value} {xv : Value} (hs : a.eval s = .slice A n c) (hx : a.eval x = xv) (hown : Own w B sz A n c xs) (hsrc : Src w sz m xv ys)
    (hbytes : (n + m) * by_ ≤ 140737488355328) (h63 : n + m ≤ maxLen) (hB : B ≤ w.heap.size)
    (h : ∀ A' c' w', Own w' B sz A' (n + m) c' (xs ++ ys) → w.grownBy w' (A.map (·.block)) → ((A' = A ∧ c' = c) ∨ A' = some ⟨w.heap.size, 0, none⟩) → K (a.put o.dst (.slice A' (n + m) c')) w') :
    if Region.wanted o (yielded ops a.tmps) = true then Oper.wp P o a w K Q else E := by
  have hw : Region.wanted o (yielded ops a.tmps) = true := by simp [Region.wanted, hgd]
  rw [if_pos hw]
  obtain ⟨i, hi1, hi2, hi3, hi4⟩ := info_parts hi
  obtain ⟨A', c', w', hr, h2, h3, h4⟩ := run_append (P := P) w B t u o.type e i z sz by_ ht hu hi1 hi2 hi3 hi4 hzs hsz A n c xs hown xv m ys hsrc hbytes h63 hB
  unfold Oper.wp execOp
  simp only [ho, resolve, invoke, builtin, Sem.run_bind, Sem.run_pure, Result.andThen_ok, List.map_toArray, List.map_cons, List.map_nil, hs, hx, hr]
  exact h A' c' w' h2 h3 h4
/-- How many bytes the reader at p still has. -/
def leftAt (p : Nat) (w : World) : Nat := match w.cell? ⟨p, 0, none⟩ with | some (.slice _ n _) => n | _ => 0
theorem Str.left {w : World} {t p b : Nat} {l : List UInt8} (h : Str w t p b l) : leftAt p w = l.length := by
  obtain ⟨o, c, h1, _⟩ := h.cell
  simp [leftAt, h1]
theorem Own.tch {w w' : World} {L : List Nat} {B sz n c : Nat} {A : Option Addr} {xs : List Value} (h : Own w B sz A n c xs) (ht : Tch L w w') (hn : A = none ∨ ∃ a, A = some ⟨a, 0, none⟩ ∧ a ∉ L) : Own w' B sz A n c xs :=
  h.mono fun a ha hlt => by
    rcases hn with rfl | ⟨b, rfl, hb⟩
    · simp at ha
    · simp at ha
      have hh := ht.block a.block hlt (by rw [← ha]; exact hb)
      exact ⟨cell_of_heap hh, by simp only [World.frozen?, hh]⟩
theorem rd_pair (W : World) (e : TypeId) (u v : Value) : Rd (W.alloc (.cells #[u, v] e)) (some ⟨W.heap.size, 0, none⟩) [u, v] := by
  refine .inr ⟨_, _, rfl, fun k x hk => ?_⟩
  match k with
  | 0 => simp at hk; subst hk; simp
  | 1 => simp at hk; subst hk; simp
  | k + 2 => simp at hk
theorem rd_single (W : World) (e : TypeId) (u : Value) : Rd (W.alloc (.cells #[u] e)) (some ⟨W.heap.size, 0, none⟩) [u] := by
  refine .inr ⟨_, _, rfl, fun k x hk => ?_⟩
  match k with
  | 0 => simp at hk; subst hk; simp
  | k + 1 => simp at hk
theorem rd_new (W : World) (e : TypeId) (cs : Array Value) : Rd (W.alloc (.cells cs e)) (some ⟨W.heap.size, 0, none⟩) cs.toList := by
  refine .inr ⟨_, _, rfl, fun j v hj => ?_⟩
  have h := (Blk.new W e cs).cell (0 + j)
  rw [h, Nat.zero_add, ← Array.getElem?_toList]
  exact hj
/-- A row of the call's own, at or above base. -/
def Hi (base : Nat) (A : Option Addr) : Prop := A = none ∨ ∃ a, A = some ⟨a, 0, none⟩ ∧ base ≤ a
theorem Hi.away {base : Nat} {A : Option Addr} {L : List Nat} (h : Hi base A) (hL : ∀ k ∈ L, k < base) : A = none ∨ ∃ a, A = some ⟨a, 0, none⟩ ∧ a ∉ L := by
  rcases h with h | ⟨a, h, ha⟩
  · exact .inl h
  · exact .inr ⟨a, h, fun hm => by have := hL a hm; omega⟩
theorem Hi.notin {base g : Nat} {A : Option Addr} (h : Hi base A) (hg : g < base) : g ∉ (A.map (·.block)).toList := by
  rcases h with rfl | ⟨a, rfl, ha⟩
  · simp
  · simp; omega
theorem Hi.inn {base : Nat} {A : Option Addr} (h : Hi base A) : ∀ k ∈ (A.map (·.block)).toList, base ≤ k := by
  rcases h with rfl | ⟨a, rfl, ha⟩
  · simp
  · simp; omega
theorem Hi.new {base b c c' : Nat} {A A' : Option Addr} (h : Hi base A) (hn : (A' = A ∧ c' = c) ∨ A' = some ⟨b, 0, none⟩) (hb : base ≤ b) : Hi base A' := by
  rcases hn with ⟨rfl, _⟩ | rfl
  · exact h
  · exact .inr ⟨_, rfl, hb⟩
theorem Hi.apart {base g : Nat} {A : Option Addr} (h : Hi base A) (hg : g < base) : A.map (·.block) ≠ some g ∨ A = none := by
  rcases h with rfl | ⟨a, rfl, ha⟩
  · exact .inr rfl
  · exact .inl (by simp; omega)
end Go.Cv
