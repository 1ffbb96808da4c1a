/- Walks: pieces of a message: end, the search's closure. -/
import Derived.Test.YtadblfnggmaadaaDoorBig
import Derived.Test.YtadblfnggmaadaaDoorRowS
import Derived.Outline
import Derived.BigQuiet
import Derived.Deep.DeepCutAuto
namespace Go.Proofs.YtadblfnggmaadaaDoor
open Go.RowKit Go.Cv
set_option maxRecDepth 100000
set_option linter.unusedVariables false
/-- A piece: where it begins, the slice that holds it, its bytes. -/
structure Rg where
  off : Nat
  A : Option Addr
  c : Nat
  l : List UInt8
def Rg.fin (r : Rg) : Nat := r.off + r.l.length
def rgv (r : Rg) : List Value := [.int .u32 (r.off : Nat), .slice r.A r.l.length r.c]
def rgs (R : List Rg) : List Value := R.flatMap rgv
theorem rgs_nil : rgs [] = [] := rfl
theorem rgs_cons (r : Rg) (R : List Rg) : rgs (r :: R) = rgv r ++ rgs R := rfl
theorem rgs_append (R T : List Rg) : rgs (R ++ T) = rgs R ++ rgs T := by simp [rgs]
theorem rgs_length (R : List Rg) : (rgs R).length = R.length * 2 := by
  induction R with
  | nil => rfl
  | cons r R ih => rw [rgs_cons, List.length_append, ih, List.length_cons]; simp [rgv]; omega
theorem rgs_take (R : List Rg) : ∀ k, (rgs R).take (k * 2) = rgs (R.take k) := by
  induction R with
  | nil => intro k; simp [rgs]
  | cons r R ih =>
    intro k
    cases k with
    | zero => simp [rgs]
    | succ k => rw [Nat.succ_mul, List.take_succ_cons, rgs_cons, rgs_cons, ← ih k]; simp [rgv]
theorem rgs_drop (R : List Rg) : ∀ k, (rgs R).drop (k * 2) = rgs (R.drop k) := by
  induction R with
  | nil => intro k; simp [rgs]
  | cons r R ih =>
    intro k
    cases k with
    | zero => simp
    | succ k => rw [Nat.succ_mul, List.drop_succ_cons, rgs_cons, ← ih k]; simp [rgv]
theorem rgs_one (R : List Rg) : ∀ v ∈ rgs R, v.oneCell' = true := by
  intro v hv
  simp only [rgs, List.mem_flatMap] at hv
  obtain ⟨r, _, hv⟩ := hv
  simp [rgv] at hv
  rcases hv with rfl | rfl <;> rfl
theorem rgs_get (R : List Rg) : ∀ k (h : k < R.length), (rgs R)[k * 2]? = some (.int .u32 (R[k].off : Nat)) ∧ (rgs R)[k * 2 + 1]? = some (.slice R[k].A R[k].l.length R[k].c) := by
  induction R with
  | nil => intro k h; simp at h
  | cons r R ih =>
    intro k h
    cases k with
    | zero => exact ⟨rfl, rfl⟩
    | succ k =>
      have := ih k (by simpa using h)
      rw [Nat.succ_mul, rgs_cons]
      exact this
theorem rgCell {w : World} {a o : Nat} {R : List Rg} (hr : Rd w (some ⟨a, o, none⟩) (rgs R)) (k : Nat) (h : k < R.length) : w.cell? ⟨a, o + k * 2, none⟩ = some (.int .u32 (R[k].off : Nat)) ∧ w.cell? ⟨a, o + k * 2 + 1, none⟩ = some (.slice R[k].A R[k].l.length R[k].c) := by
  obtain ⟨h1, h2⟩ := rgs_get R k h
  rcases hr with hr | ⟨b', o', hA, hr⟩
  · rw [hr] at h1; simp at h1
  · injection hA with hA
    injection hA with hb ho
    subst hb ho
    exact ⟨hr _ _ h1, by rw [Nat.add_assoc]; exact hr _ _ h2⟩
theorem u32_wrap (n : Nat) (h : n < 4294967296) : IntKind.u32.wrap (n : Int) = (n : Int) := by rw [IntKind.wrap_u32]; omega
theorem w64_all (n : Nat) (h : n < 9223372036854775808) : wrap64 (n : Int) = (n : Int) := by unfold wrap64; omega
theorem u64_nat (n : Nat) (h : n < 18446744073709551616) : IntKind.u64.wrap (n : Int) = (n : Int) := by rw [IntKind.wrap_u64]; omega
/-- The end of a piece. -/
theorem end_any (o n c s : Nat) (A : Option Addr) (hs : o + n = s) (hb : s ≤ 1000000) (w : World) :
    Calls Tryd.prog 38 #[.agg #[.int .u32 (o : Nat), .slice A n c]] w fun e w' => e = .returned (.int .u32 (s : Nat)) ∧ Below w.heap.size w w' := by
  have h1 : (o : Int) + (n : Int) = (s : Int) := by omega
  have h2 : Hid (IntKind.u32.wrap (n : Int) = (n : Int)) := Lib.hid (u32_wrap n (by omega))
  have h3 : Hid (IntKind.u32.wrap (s : Int) = (s : Int)) := Lib.hid (u32_wrap s (by omega))
  clear hs hb
  have e2 := h2.out
  have e3 := h3.out
  go_enter Tryd.func38, Tryd.ntmps38
  go_wp2_with fail
  first | go_ret2 | go_ret
  exact ⟨rfl, below_alloc _ _⟩
/-- What a message's pieces lie in. -/
def frRow (A : Option Addr) (n c cov : Nat) (r : List Value) : Array Value := #[.slice A n c, .int .u32 (cov : Nat)] ++ r.toArray
/-- The search's closure. -/
theorem geq_any (a g p q o k n c cov : Nat) (R : List Rg) (rs : List Value) (hn : R.length = n) (hk : k < n) (w : World) (hg : Blk w g 92 (frRow (some ⟨a, 0, none⟩) n c cov rs)) (hr : Rd w (some ⟨a, 0, none⟩) (rgs R))
    (hp : w.cell? ⟨p, 0, none⟩ = some (.pointer (some ⟨g, 0, none⟩))) (hq : w.cell? ⟨q, 0, none⟩ = some (.int .u32 (o : Nat))) :
    Calls Tryd.prog 36 #[.int .i64 (k : Nat), .pointer (some ⟨p, 0, none⟩), .pointer (some ⟨q, 0, none⟩)] w fun e w' => e = .returned (.bool (decide (o ≤ (R[k]'(by omega)).off))) ∧ Below w.heap.size w w' := by
  obtain ⟨c0, c1⟩ := rgCell hr k (by omega)
  have g0 : w.cell? ⟨g, 0, none⟩ = some (.slice (some ⟨a, 0, none⟩) n c) := (hg.cell 0).trans (by simp [frRow])
  obtain ⟨x, hx⟩ : ∃ x, (R[k]'(by omega)).off = x := ⟨_, rfl⟩
  rw [hx] at c0 ⊢
  have t0 : (k : Int) < n := by omega
  rw [Nat.zero_add] at c0
  clear c1 hg hr hx
  go_enter Tryd.func36, Tryd.ntmps36
  go_wp2_with fail
  go_quiet (fail)
  have hb1 := below_drewN (Below.refl w.heap.size w) nq
  have HB := Lib.hid hb1
  clear hb1
  generalize w.drewN nq = w1 at *
  go_wp2_with fail
  first | go_ret2 | go_ret
  exact ⟨by simp, HB.out⟩
set_option maxHeartbeats 1000000 in
theorem search_any (p q n : Nat) (f : Nat → Bool) (hn : n ≤ 100000) (hmono : ∀ i j, i ≤ j → j < n → f i = true → f j = true) (w : World)
    (hF : Hid (∀ W, Below w.heap.size w W → ∀ k, k < n → Calls Tryd.prog 36 #[.int .i64 (k : Nat), .pointer (some ⟨p, 0, none⟩), .pointer (some ⟨q, 0, none⟩)] W fun e w' => e = .returned (.bool (f k)) ∧ Below W.heap.size W w')) :
    Calls Tryd.prog 35 #[.int .i64 (n : Nat), .func (.func 36) #[] #[.pointer (some ⟨p, 0, none⟩), .pointer (some ⟨q, 0, none⟩)]] w fun e w' =>
      ∃ i : Nat, e = .returned (.int .i64 (i : Nat)) ∧ i ≤ n ∧ (∀ t, t < i → f t = false) ∧ (∀ t, i ≤ t → t < n → f t = true) ∧ Below w.heap.size w w' := by
  have HM := Lib.hid (And.intro hn hmono)
  clear hn hmono
  go_enter Tryd.func35, Tryd.ntmps35
  go_wp2_with fail
  go_loopw [5, 6] (fun x y wr => ∃ lo hi : Nat, x = .int .i64 lo ∧ y = .int .i64 hi ∧ lo ≤ hi ∧ hi ≤ n ∧ Hid ((∀ t, t < lo → f t = false) ∧ (∀ t, hi ≤ t → t < n → f t = true) ∧ Below w.heap.size w wr)) (fun x y _ => (intOf y).toNat - (intOf x).toNat)
  case atStart => exact ⟨0, n, rfl, rfl, Nat.zero_le _, Nat.le_refl _, Lib.hid ⟨fun t ht => absurd ht (Nat.not_lt_zero _), fun t h1 h2 => by omega, Below.refl _ _⟩⟩
  case round =>
    obtain ⟨lo, hi, rfl, rfl, hlh, hhn, HI⟩ := hrel
    by_cases hlt : lo < hi
    · obtain ⟨s, hs⟩ : ∃ s, lo + hi = s := ⟨_, rfl⟩
      obtain ⟨m, hm⟩ : ∃ m, s / 2 = m := ⟨_, rfl⟩
      have H1 := Lib.hid (And.intro hlt (And.intro hs hm))
      have H2 : Hid (m < n ∧ lo ≤ m ∧ m < hi ∧ hi ≤ n) := Lib.hid (by omega)
      have e1 : (lo : Int) + (hi : Int) = (s : Int) := by omega
      have e2 : (s : Int) / 2 = (m : Int) := by omega
      have W1 : Hid (wrap64 (s : Int) = (s : Int)) := Lib.hid (w64_all s (by have := HM.out.1; omega))
      have W2 : Hid (IntKind.u64.wrap (s : Int) = (s : Int)) := Lib.hid (u64_nat s (by have := HM.out.1; omega))
      have W3 : Hid (IntKind.i64.wrap (m : Int) = (m : Int)) := Lib.hid (i64_nat m (by have := HM.out.1; omega))
      have t0 : decide (lo < hi) = true := decide_eq_true hlt
      have HC := Lib.hid (hF.out wr HI.out.2.2 m H2.out.1)
      clear hlt hs hm hlh hhn
      have w1 := W1.out
      have w2 := W2.out
      have w3 := W3.out
      go_wp2_with fail
      refine HC.out.mono ?_
      rintro e w4 ⟨rfl, hb4⟩
      have HB4 := Lib.hid (below_two HI.out.2.2 hb4)
      clear hb4 HC
      have H6 := Lib.hid HM.out.2
      by_cases hf : f m = true
      · have HFM := Lib.hid hf
        rw [hf]
        clear hf w1 w2 e1 e2
        go_wp2_with fail
        go_roundw
        case rel => exact ⟨lo, m, rfl, rfl, H2.out.2.1, by have := H2.out; omega, Lib.hid ⟨HI.out.1, fun t h1 h2 => HM.out.2 m t h1 h2 HFM.out, HB4.out⟩⟩
        case measure =>
          have h1 := H1.out; have h2 := H2.out
          show ((m : Int)).toNat - ((lo : Int)).toNat < ((hi : Int)).toNat - ((lo : Int)).toNat
          omega
      · have hf' : f m = false := by simpa using hf
        have HFM := Lib.hid hf'
        rw [hf']
        clear hf hf' w1 w2 w3 e1 e2
        obtain ⟨m1, hm1⟩ : ∃ m1, m + 1 = m1 := ⟨_, rfl⟩
        have e1 : (m : Int) + 1 = (m1 : Int) := by omega
        have W4 : Hid (wrap64 (m1 : Int) = (m1 : Int)) := Lib.hid (w64_all m1 (by have := HM.out.1; have := H2.out; omega))
        have W5 : Hid (IntKind.i64.wrap (m1 : Int) = (m1 : Int)) := Lib.hid (i64_nat m1 (by have := HM.out.1; have := H2.out; omega))
        have HM1 := Lib.hid hm1
        clear hm1
        have w4' := W4.out
        have w5' := W5.out
        have hlow : Hid (∀ t, t < m1 → f t = false) := Lib.hid fun t ht => by
          cases hft : f t with
          | false => rfl
          | true =>
            have h := HM.out.2 t m (by have := HM1.out; omega) H2.out.1 hft
            rw [HFM.out] at h
            cases h
        go_wp2_with fail
        go_roundw
        case rel => exact ⟨m1, hi, rfl, rfl, by have := H2.out; have := HM1.out; omega, H2.out.2.2.2, Lib.hid ⟨hlow.out, HI.out.2.1, HB4.out⟩⟩
        case measure =>
          have h1 := H1.out; have h2 := H2.out; have h3 := HM1.out
          show ((hi : Int)).toNat - ((m1 : Int)).toNat < ((hi : Int)).toNat - ((lo : Int)).toNat
          omega
    · obtain rfl : lo = hi := by omega
      have HL := Lib.hid hhn
      clear hlt hlh hhn
      go_wp2_with fail
      first | go_ret2 | go_ret
      exact ⟨lo, rfl, HL.out, HI.out.1, HI.out.2.1, HI.out.2.2⟩
end Go.Proofs.YtadblfnggmaadaaDoor
