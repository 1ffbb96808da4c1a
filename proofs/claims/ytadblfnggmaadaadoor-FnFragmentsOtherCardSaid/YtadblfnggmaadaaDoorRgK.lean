/- Walks: laws.total, laws.list[bool]. -/
import Derived.Test.YtadblfnggmaadaaDoorRgJ
namespace Go.Proofs.YtadblfnggmaadaaDoor
open Go.RowKit Go.Cv
set_option maxRecDepth 100000
set_option linter.unusedVariables false
def bv (l : List Bool) : List Value := l.map fun b => Value.bool b
theorem bv_length (l : List Bool) : (bv l).length = l.length := by simp [bv]
theorem bv_get (l : List Bool) (j : Nat) (hj : j < l.length) : (bv l)[j]? = some (.bool (l.getD j false)) := by simp [bv, List.getD, hj]
theorem bv_at {w : World} {b o : Nat} {l : List Bool} (h : Rd w (some ⟨b, o, none⟩) (bv l)) (j : Nat) (hj : j < l.length) : w.cell? ⟨b, o + j, none⟩ = some (.bool (l.getD j false)) := by
  have e := bv_get l j hj
  rcases h with h | ⟨b', o', hA, h⟩
  · rw [h] at e; simp at e
  · injection hA with hA; injection hA with h1 h2; subst h1 h2
    exact h j _ e
theorem bv_ne {l : List Bool} (h : 0 < l.length) : bv l ≠ [] := by
  cases l with
  | nil => simp at h
  | cons a l => simp [bv]
theorem own_bv {w : World} {B r n c : Nat} {l : List Bool} (h : Own w B 1 (some ⟨r, 0, none⟩) n c (bv l)) (i : Nat) (hi : i < n) : w.cell? ⟨r, i, none⟩ = some (.bool (l.getD i false)) ∧ w.frozen? ⟨r, i, none⟩ = false := by
  obtain ⟨v, h1, h2, h3⟩ := h.at_ i hi
  have hl : i < l.length := by have := h.1; rw [bv_length] at this; omega
  rw [bv_get l i hl] at h1
  obtain rfl := Option.some.inj h1
  simp only [Nat.zero_add] at h2 h3
  exact ⟨h2, h3⟩
theorem own_bv_set {w : World} {B r n c : Nat} {l : List Bool} (h : Own w B 1 (some ⟨r, 0, none⟩) n c (bv l)) (i : Nat) (x : Bool) (hi : i < n) : Own (w.setCell ⟨r, i, none⟩ (.bool x)) B 1 (some ⟨r, 0, none⟩) n c (bv (l.set i x)) := by
  have h1 := h.set i hi (.bool x)
  have e : (bv l).set i (.bool x) = bv (l.set i x) := by simp [bv, List.map_set]
  rw [e] at h1
  simp only [Nat.zero_add] at h1
  exact h1
theorem bv_false (n : Nat) : List.replicate n (Value.bool false) = bv (List.replicate n false) := by simp [bv]
/-- The marks of a row say just where P holds. -/
structure Ms (P : Nat → Prop) (L : Nat) (h : List Bool) : Prop where
  len : h.length = L
  iff : ∀ k, k < L → (h.getD k false = true ↔ P k)
theorem Ms.same {P : Nat → Prop} {L : Nat} {h g : List Bool} (a : Ms P L h) (b : Ms P L g) : h = g := by
  refine List.ext_getElem (by rw [a.len, b.len]) fun i h1 h2 => ?_
  have x := a.iff i (by rw [← a.len]; exact h1)
  have y := b.iff i (by rw [← a.len]; exact h1)
  simp only [List.getD, List.getElem?_eq_getElem h1, List.getElem?_eq_getElem h2, Option.getD_some] at x y
  cases h3 : h[i] <;> cases h4 : g[i] <;> simp_all
theorem Ms.none (L : Nat) (P : Nat → Prop) (hP : ∀ k, ¬ P k) : Ms P L (List.replicate L false) := ⟨by simp, fun k hk => by simp [List.getD, hk, hP k]⟩
theorem Ms.to {P Q : Nat → Prop} {L : Nat} {h : List Bool} (a : Ms P L h) (hPQ : ∀ k, k < L → (P k ↔ Q k)) : Ms Q L h := ⟨a.len, fun k hk => (a.iff k hk).trans (hPQ k hk)⟩
theorem Ms.set {P : Nat → Prop} {L : Nat} {h : List Bool} (a : Ms P L h) (i : Nat) (hi : i < L) : Ms (fun k => P k ∨ k = i) L (h.set i true) := by
  refine ⟨by simp [a.len], fun k hk => ?_⟩
  by_cases e : k = i
  · subst e
    simp [List.getD, a.len, hi]
  · have h1 := a.iff k hk
    simp only [List.getD] at h1 ⊢
    rw [List.getElem?_set_ne (by omega), h1]
    exact ⟨.inl, fun h => h.resolve_right e⟩
theorem txts_length (R : List Rg) : (txts R).length = R.length := by simp [txts]
theorem offs_length (R : List Rg) : (offs R).length = R.length := by simp [offs]
theorem txts_at {w : World} {A : Option Addr} {R : List Rg} (h : Rd w A (txts R)) (j : Nat) (r : Rg) (hj : R[j]? = some r) : ∃ b o, A = some ⟨b, o, none⟩ ∧ w.cell? ⟨b, o + j, none⟩ = some (.string (S r.l)) := by
  have e : (txts R)[j]? = some (.string (S r.l)) := by simp [txts, hj]
  rcases h with h | ⟨b, o, rfl, h⟩
  · rw [h] at e; simp at e
  · exact ⟨b, o, rfl, h j _ e⟩
theorem offs_at {w : World} {A : Option Addr} {R : List Rg} (h : Rd w A (offs R)) (j : Nat) (r : Rg) (hj : R[j]? = some r) : ∃ b o, A = some ⟨b, o, none⟩ ∧ w.cell? ⟨b, o + j, none⟩ = some (.int .u32 (r.off : Nat)) := by
  have e : (offs R)[j]? = some (.int .u32 (r.off : Nat)) := by simp [offs, hj]
  rcases h with h | ⟨b, o, rfl, h⟩
  · rw [h] at e; simp at e
  · exact ⟨b, o, rfl, h j _ e⟩
theorem bytes_take {R : List Rg} {j : Nat} {r : Rg} (h : R[j]? = some r) : bytesOf (R.take (j + 1)) = bytesOf (R.take j) + r.l.length := by
  rw [take_one h, bytes_append]; simp [bytesOf]
theorem bytes_small {R : List Rg} (h : ∀ r ∈ R, r.l.length ≤ 2000) (j : Nat) : bytesOf (R.take j) ≤ j * 2000 := by
  induction j with
  | zero => simp [bytesOf]
  | succ j ih =>
    rcases hj : R[j]? with _ | r
    · have : R.take (j + 1) = R.take j := by
        rw [List.getElem?_eq_none_iff] at hj
        rw [List.take_of_length_le (by omega), List.take_of_length_le hj]
      rw [this]; omega
    · rw [bytes_take hj]
      have := h r (List.mem_of_getElem? hj)
      omega
set_option maxHeartbeats 1000000 in
theorem total_any (A : Option Addr) (n c : Nat) (R : List Rg) (hl : R.length = n) (hn : n ≤ 60) (hR : ∀ r ∈ R, r.l.length ≤ 2000) (w : World) (hr : Rd w A (txts R)) :
    Calls Tryd.prog 8 #[.slice A n c] w fun e w' => e = .returned (.int .i64 (bytesOf R : Nat)) ∧ Below w.heap.size w w' := by
  have HR1 := Lib.hid hr
  have HL := Lib.hid (And.intro hl (And.intro hn hR))
  clear hr hl hn hR
  go_enter Tryd.func8, Tryd.ntmps8
  go_wp2_with fail
  go_loopw [3, 8] (fun x i wr => ∃ j : Nat, j ≤ n ∧ i = .int .i64 j ∧ (∃ s : Nat, x = .int .i64 s ∧ Hid (s = bytesOf (R.take j))) ∧ Hid (Below w.heap.size w wr)) (fun _ i _ => n - (intOf i).toNat)
  case atStart => exact ⟨0, Nat.zero_le _, rfl, ⟨0, rfl, Lib.hid (by simp [bytesOf])⟩, Lib.hid (Below.refl _ _)⟩
  case round =>
    obtain ⟨j, hj, rfl, ⟨s, rfl, HS⟩, HB⟩ := hrel
    by_cases hlt : j < n
    · obtain ⟨r, hr⟩ : ∃ r, R[j]? = some r := ⟨_, List.getElem?_eq_getElem (by rw [HL.out.1]; exact hlt)⟩
      obtain ⟨b, o, rfl, c0⟩ := txts_at (HR1.out.keep HB.out) j r hr
      have hrl := HL.out.2.2 r (List.mem_of_getElem? hr)
      obtain ⟨q, hq⟩ : ∃ q, s + r.l.length = q := ⟨_, rfl⟩
      have hqs : q ≤ 200000 := by
        have h1 := bytes_small HL.out.2.2 j
        have h2 := HS.out
        have h3 := HL.out.2.1
        omega
      have HQ : Hid (q = bytesOf (R.take (j + 1))) := Lib.hid (by rw [bytes_take hr, ← hq, HS.out])
      have s1 : wrap64 ((s : Int) + (r.l.length : Int)) = (q : Int) := by unfold wrap64; omega
      have jw : wrap64 ((j : Int) + 1) = (j : Int) + 1 := w64_inc hlt (by have := HL.out.2.1; omega)
      have jn : (j : Int) < n := by omega
      clear hr hrl hq hqs
      go_wp2_with fail
      go_roundw
      case rel => exact ⟨j + 1, hlt, by first | (rw [jw]; go_num) | go_num, ⟨q, by first | rfl | (rw [S_size, s1]), HQ⟩, HB⟩
      case measure => first | exact t_measD hlt | (rw [jw]; exact t_measD hlt)
    · obtain rfl : j = n := by omega
      go_wp2_with fail
      go_ret
      refine ⟨?_, HB.out⟩
      have h := HS.out
      rw [← HL.out.1, List.take_length] at h
      rw [h]
      rfl
/-! ### two lists of answers that are alike -/
theorem eqB_any (x : Bool) (w : World) : Calls Tryd.prog 21 #[.bool x, .bool x] w fun e w' => e = .returned (.bool true) ∧ w = w' := by
  cases x <;> (go_enter Tryd.func21, Tryd.ntmps21; go_wp2_with fail; go_ret; exact ⟨rfl, rfl⟩)
set_option maxHeartbeats 1000000 in
theorem listB_any (A1 A2 : Option Addr) (n c1 c2 : Nat) (l : List Bool) (hl : l.length = n) (hn : n ≤ 2000) (w : World) (hr1 : Rd w A1 (bv l)) (hr2 : Rd w A2 (bv l)) :
    Calls Tryd.prog 20 #[.slice A1 n c1, .slice A2 n c2, .func (Fn.func 21) #[] #[]] w fun e w' => e = .returned (.bool true) ∧ Below w.heap.size w w' := by
  have HR1 := Lib.hid hr1
  have HR2 := Lib.hid hr2
  have HL := Lib.hid hl
  have HN := Lib.hid hn
  clear hr1 hr2 hl hn
  go_enter Tryd.func20, Tryd.ntmps20
  go_wp2_with fail
  go_loopw [15] (fun i wr => ∃ j : Nat, j ≤ n ∧ i = .int .i64 j ∧ Hid (Below w.heap.size w wr)) (fun i _ => n - (intOf i).toNat)
  case atStart => exact ⟨0, Nat.zero_le _, rfl, Lib.hid (Below.refl _ _)⟩
  case round =>
    obtain ⟨j, hj, rfl, HB⟩ := hrel
    by_cases hlt : j < n
    · have hne : bv l ≠ [] := bv_ne (by rw [HL.out]; omega)
      obtain ⟨b1, o1, rfl, q1⟩ := HR1.out.resolve_left hne
      obtain ⟨b2, o2, rfl, q2⟩ := HR2.out.resolve_left hne
      have HX : Hid (∀ w', Below wr.heap.size wr w' → w'.cell? ⟨b1, o1 + j, none⟩ = some (.bool (l.getD j false)) ∧ w'.cell? ⟨b2, o2 + j, none⟩ = some (.bool (l.getD j false))) := Lib.hid (fun w' hb => ⟨bv_at (HR1.out.keep (below_two HB.out hb)) j (by rw [HL.out]; exact hlt), bv_at (HR2.out.keep (below_two HB.out hb)) j (by rw [HL.out]; exact hlt)⟩)
      obtain ⟨x, hx⟩ : ∃ x, l.getD j false = x := ⟨_, rfl⟩
      rw [hx] at HX
      have jw : wrap64 ((j : Int) + 1) = (j : Int) + 1 := by have := HN.out; unfold wrap64; omega
      have jn : (j : Int) < n := by omega
      clear hx q1 q2 hne
      go_wp2_with fail
      go_region_held_law (fun w' => w'.cell? ⟨b1, o1 + j, none⟩ = some (.bool x) ∧ w'.cell? ⟨b2, o2 + j, none⟩ = some (.bool x)) (first | exact HX.out _ (below_drew _) | exact HX.out _ (Below.refl _ _))
        (first | (go_at_call 21; with_reducible refine (eqB_any x _).mono ?_; rintro e w' ⟨rfl, rfl⟩))
      all_goals
        go_wp2_with fail
        go_roundw
        case rel => exact ⟨j + 1, hlt, by first | (rw [jw]; go_num) | go_num, Lib.hid (below_two HB.out (by first | exact below_drew _ | exact Below.refl _ _))⟩
        case measure => first | exact t_measD hlt | (rw [jw]; exact t_measD hlt)
    · obtain rfl : j = n := by omega
      go_wp2_with fail
      go_ret
      exact ⟨rfl, HB.out⟩
end Go.Proofs.YtadblfnggmaadaaDoor
