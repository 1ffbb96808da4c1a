/- Walks: the law of the window, put together. -/
import Derived.Test.YtkjnmmephhlkgaaRepL
import Derived.Test.YtkjnmmephhlkgaaRowBools
namespace Go.Proofs.Ytkjnmmephhlkgaa
open Go.RowKit Go.Cv
set_option maxRecDepth 100000
set_option linter.unusedVariables false
def WinPost (x : Int) (M : Nat) (w : World) (e : Ending) (w' : World) : Prop := ∃ d : Bool, e = .returned (.bool d) ∧ (d = true → ∃ W : Nat, x = W ∧ Sized W M ((W + 63) / 64)) ∧ w = w'
theorem windowed_any (x : Int) (M : Nat) (wx : (Lit.int .i64 x).wf = true) (hM : (M : Int) < 18446744073709551616) (w : World) : Calls Try.prog 4 #[.int .i64 x, .int .u64 (M : Nat)] w (WinPost x M w) := by
  by_cases h1 : x < 1
  · have t1 : decide (1 ≤ x) = false := by simp; omega
    clear h1 wx hM
    go_enter Try.func4, Try.ntmps4
    go_wp2_with fail
    go_ret
    exact ⟨false, rfl, by simp, rfl⟩
  by_cases h2 : 1000 < x
  · have t1 : decide (1 ≤ x) = true := by simp; omega
    have t2 : decide (x ≤ 1000) = false := by simp; omega
    clear h1 h2 wx hM
    go_enter Try.func4, Try.ntmps4
    go_wp2_with fail
    go_ret
    exact ⟨false, rfl, by simp, rfl⟩
  obtain ⟨W, rfl⟩ : ∃ W : Nat, x = W := ⟨x.toNat, by omega⟩
  have t1 : decide ((1 : Int) ≤ W) = true := by simp; omega
  have t2 : decide ((W : Int) ≤ 1000) = true := by simp; omega
  have W1 : 1 ≤ W := by omega
  have W2 : W ≤ 1000 := by omega
  have ew : IntKind.u64.wrap (W : Int) = (W : Int) := by rw [IntKind.wrap_u64]; omega
  obtain ⟨q, hq⟩ : ∃ q, W % 64 = q := ⟨_, rfl⟩
  have eq1 : (W : Int) % 64 = (q : Int) := by omega
  have eq2 : (W : Int).tmod 64 = (q : Int) := by rw [Int.tmod_eq_emod_of_nonneg (by omega)]; exact eq1
  by_cases h3 : q ≤ 32
  case neg =>
    have t3 : decide ((q : Int) ≤ 32) = false := by simp; omega
    have H1 := Lib.hid (And.intro W1 W2)
    clear h1 h2 wx hM W1 W2 h3 hq
    go_enter Try.func4, Try.ntmps4
    go_wp2_with fail
    go_ret
    exact ⟨false, by simp, by simp, rfl⟩
  have t3 : decide ((q : Int) ≤ 32) = true := by simp; omega
  by_cases h4 : W ≤ M
  case neg =>
    have t4 : decide ((W : Int) ≤ M) = false := by simp; omega
    clear h1 h2 wx hM h3 hq
    go_enter Try.func4, Try.ntmps4
    go_wp2_with fail
    go_ret
    exact ⟨false, by simp, by simp, rfl⟩
  have t4 : decide ((W : Int) ≤ M) = true := by simp; omega
  by_cases h5 : (M : Int) ≤ 281474976710655
  case neg =>
    have t5 : decide ((M : Int) ≤ 281474976710655) = false := by simpa using h5
    clear h1 h2 wx hM h3 hq h5
    go_enter Try.func4, Try.ntmps4
    go_wp2_with fail
    go_ret
    exact ⟨false, by simp, by simp, rfl⟩
  have t5 : decide ((M : Int) ≤ 281474976710655) = true := by simpa using h5
  have HZ : Hid (Sized W M ((W + 63) / 64)) := Lib.hid ⟨rfl, W1, W2, by omega, h4, by omega⟩
  clear h1 h2 wx hM h3 hq h5
  go_enter Try.func4, Try.ntmps4
  go_wp2_with fail
  go_ret
  exact ⟨true, by simp, fun _ => ⟨W, rfl, HZ.out⟩, rfl⟩
theorem replay0 (W M c cc c2 : Nat) (A A2 : Option Addr) (hz : Sized W M c) (w : World) :
    Calls Try.prog 5 #[.int .i64 (W : Nat), .int .u64 (M : Nat), .slice A 0 cc, .slice A2 0 c2] w fun e w' => ∃ A c', e = .returned (.slice A 0 c') ∧ Below w.heap.size w w' := by
  have HNW := Lib.hid (new_any W M c hz w)
  have ew : IntKind.u64.wrap (W : Int) = (W : Int) := by have := hz.W2; rw [IntKind.wrap_u64]; omega
  have hW2 := hz.W2
  clear hz
  go_enter Try.func5, Try.ntmps5
  go_wp2_with fail
  refine HNW.out.mono ?_
  rintro e w1 ⟨d, m, r, rfl, hd, hb1, hge⟩
  have HB1 := Lib.hid hb1
  clear hd hb1 HNW hge ew hW2
  go_wp2_with fail
  refine wp_loop_rounds 1 ?_
  rw [rounds_succ]
  go_wp2_with fail
  go_ret
  exact ⟨none, 0, rfl, HB1.out⟩
theorem run0 (W M cc c2 : Nat) (A A2 : Option Addr) (w : World) :
    Calls Try.prog 6 #[.int .i64 (W : Nat), .int .u64 (M : Nat), .slice A 0 cc, .slice A2 0 c2] w fun e w' => ∃ A c', e = .returned (.slice A 0 c') ∧ Below w.heap.size w w' := by
  go_enter Try.func6, Try.ntmps6
  go_wp2_with fail
  refine wp_loop_rounds 1 ?_
  rw [rounds_succ]
  go_wp2_with fail
  go_ret
  exact ⟨none, 0, rfl, below_alloc _ _⟩
def RunPost (n : Nat) (l : List Bool) (w : World) (e : Ending) (w' : World) : Prop := ∃ A c', e = .returned (.slice A n c') ∧ Rd w' A (bv l) ∧ Below w.heap.size w w'
/-- Both runs, whatever the lengths. -/
theorem both (W M c n cc c2 : Nat) (A A2 : Option Addr) (zs : List Nat) (fs : List Bool) (hz : Sized W M c) (hl : zs.length = n) (hla : fs.length = n) (hn : n ≤ 300) (hzs : ∀ z ∈ zs, z < 18446744073709551616) (w : World) (hr : Rd w A (wv zs)) (hr2 : Rd w A2 (bv fs)) :
    Calls Try.prog 5 #[.int .i64 (W : Nat), .int .u64 (M : Nat), .slice A n cc, .slice A2 n c2] w (RunPost n (rout W M zs fs n) w) ∧ Calls Try.prog 6 #[.int .i64 (W : Nat), .int .u64 (M : Nat), .slice A n cc, .slice A2 n c2] w (RunPost n (rout W M zs fs n) w) := by
  by_cases h0 : n = 0
  · subst h0
    exact ⟨(replay0 W M c cc c2 A A2 hz w).mono fun e w' ⟨A', c', h1, h2⟩ => ⟨A', c', h1, .inl (by simp [rout, bv]), h2⟩, (run0 W M cc c2 A A2 w).mono fun e w' ⟨A', c', h1, h2⟩ => ⟨A', c', h1, .inl (by simp [rout, bv]), h2⟩⟩
  · have h1 : wv zs ≠ [] := fun h => by have := congrArg List.length h; rw [wv_length, hl] at this; simp at this; omega
    have h2 : bv fs ≠ [] := fun h => by have := congrArg List.length h; rw [bv_length, hla] at this; simp at this; omega
    obtain ⟨b, o, rfl, _⟩ := hr.resolve_left h1
    obtain ⟨b2, o2, rfl, _⟩ := hr2.resolve_left h2
    exact ⟨replay_any W M c b o n cc b2 o2 c2 zs fs hz hl hla hn hzs w hr hr2, run2_any W M c b o n cc b2 o2 c2 zs fs hz hl hla hn hzs w hr hr2⟩
theorem bv_take (fs : List Bool) (n : Nat) : bv (fs.take n) = (bv fs).take n := by simp [bv, List.map_take]
set_option maxHeartbeats 1000000 in
theorem rp_any (x : Int) (wx : (Lit.int .i64 x).wf = true) (M : Nat) (hM : (M : Int) < 18446744073709551616) (A : Option Addr) (n cc : Nat) (zs : List Nat) (hl : zs.length = n) (hzs : ∀ z ∈ zs, z < 18446744073709551616) (A2 : Option Addr) (m c2 : Nat) (fs : List Bool) (hla : fs.length = m) (hmc : m ≤ c2) (w : World) (hr : Rd w A (wv zs)) (hr2 : Rd w A2 (bv fs)) :
    Calls Try.prog 3 #[.int .i64 x, .int .u64 (M : Nat), .slice A n cc, .slice A2 m c2] w fun e w' => e = .returned (.bool true) ∧ Below w.heap.size w w' := by
  by_cases h1 : (2147483647 : Int) < n
  · have t1 : decide ((2147483647 : Int) < n) = true := by simpa using h1
    clear h1 wx hM hl hzs hla hmc hr hr2
    go_enter Try.func3, Try.ntmps3
    go_wp2_with fail
    go_ret
    exact ⟨rfl, Below.refl _ _⟩
  have t1 : decide ((2147483647 : Int) < n) = false := by simpa using h1
  clear h1
  by_cases h2 : (2147483647 : Int) < m
  · have t2 : decide ((2147483647 : Int) < m) = true := by simpa using h2
    clear h2 wx hM hl hzs hla hmc hr hr2
    go_enter Try.func3, Try.ntmps3
    go_wp2_with fail
    go_ret
    exact ⟨rfl, Below.refl _ _⟩
  have t2 : decide ((2147483647 : Int) < m) = false := by simpa using h2
  have HW := Lib.hid (windowed_any x M wx hM w)
  clear h2 wx hM
  by_cases h3 : (300 : Int) < n
  · have t3 : decide ((300 : Int) < n) = true := by simpa using h3
    clear h3 hl hzs hla hmc hr hr2
    go_enter Try.func3, Try.ntmps3
    go_wp2_with fail
    refine HW.out.mono ?_
    rintro e w1 ⟨d, rfl, hd, rfl⟩
    clear hd
    cases d <;> (go_wp2_with fail; go_ret; exact ⟨rfl, Below.refl _ _⟩)
  have t3 : decide ((300 : Int) < n) = false := by simpa using h3
  by_cases h4 : m < n
  · have t4 : decide ((m : Int) < n) = true := by simp; omega
    clear h3 hl hzs hla hmc hr hr2
    go_enter Try.func3, Try.ntmps3
    go_wp2_with fail
    refine HW.out.mono ?_
    rintro e w1 ⟨d, rfl, hd, rfl⟩
    clear hd
    cases d <;> (go_wp2_with fail; go_ret; exact ⟨rfl, Below.refl _ _⟩)
  have t4 : decide ((m : Int) < n) = false := by simp; omega
  have t4' : ¬ m < n := h4
  have hn3 : n ≤ 300 := by omega
  have hnc : (n : Int) ≤ c2 := by omega
  have HR := Lib.hid hr
  have HR2 : Hid (Rd w A2 (bv (fs.take n))) := Lib.hid (by rw [bv_take]; exact hr2.take n)
  have HL := Lib.hid hl
  have HLT : Hid ((fs.take n).length = n) := Lib.hid (by rw [List.length_take]; omega)
  have HZS := Lib.hid hzs
  have HN3 := Lib.hid hn3
  clear h3 hl hzs hla hmc hr hr2 hn3
  go_enter Try.func3, Try.ntmps3
  go_wp2_with fail
  refine HW.out.mono ?_
  rintro e w1 ⟨d, rfl, hd, rfl⟩
  cases d with
  | false =>
    clear hd
    go_wp2_with fail
    go_ret
    exact ⟨rfl, Below.refl _ _⟩
  | true =>
    obtain ⟨W, rfl, hz⟩ := hd (by trivial)
    have HB : Hid (∀ w', Below w.heap.size w w' → _) := Lib.hid (fun w' hb => both W M _ n cc c2 A A2 zs (fs.take n) hz HL.out HLT.out HN3.out HZS.out w' (HR.out.keep hb) (HR2.out.keep hb))
    clear hd hz HW
    go_wp2_with fail
    refine (HB.out w (Below.refl _ _)).1.mono ?_
    rintro e w2 ⟨B1, d1, rfl, hr1, hb1⟩
    go_wp2_with fail
    refine (HB.out w2 hb1).2.mono ?_
    rintro e w3 ⟨B2, d2, rfl, hr2, hb2⟩
    have HT := Lib.hid (listB_any B1 B2 n d1 d2 (rout W M zs (fs.take n) n) (rout_length _ _ _ _ _) HN3.out w3 (hr1.keep hb2) hr2)
    have HBB := Lib.hid (below_two hb1 hb2)
    clear hr1 hb1 hr2 hb2 HB
    go_wp2_with fail
    refine HT.out.mono ?_
    rintro e w4 ⟨rfl, hb4⟩
    go_wp2_with fail
    go_ret
    exact ⟨rfl, below_two HBB.out hb4⟩
theorem rp_row (x : Int) (wx : (Lit.int .i64 x).wf = true) (y : Int) (wy : (Lit.int .u64 y).wf = true) (A : Option Addr) (n c : Nat) (z : List Int) (hz : z.length = n) (hnc : n ≤ c) (w : World) (hr : Rd w A (z.map (Value.int .u64))) (hw : ∀ v ∈ z, (Lit.int .u64 v).wf = true)
    (A3 : Option Addr) (n3 c3 : Nat) (z3 : List Bool) (hz3 : z3.length = n3) (hn3 : n3 ≤ c3) (hr3 : Rd w A3 (z3.map Value.bool)) :
    Calls Try.prog 3 #[.int .i64 x, .int .u64 y, .slice A n c, .slice A3 n3 c3] w fun e w' => e = .returned (.bool true) ∧ Below w.heap.size w w' := by
  obtain ⟨M, rfl, hM⟩ := nat_u64 wy
  have e : z.map (Value.int .u64) = wv (z.map Int.toNat) := by
    unfold wv
    rw [List.map_map]
    refine List.map_congr_left (fun v hv => ?_)
    obtain ⟨q, rfl, _⟩ := nat_u64 (hw v hv)
    simp
  rw [e] at hr
  exact rp_any x wx M hM A n c (z.map Int.toNat) (by simpa using hz) (by
    intro q hq
    simp only [List.mem_map] at hq
    obtain ⟨v, hv, rfl⟩ := hq
    obtain ⟨q, rfl, hq⟩ := nat_u64 (hw v hv)
    omega) A3 n3 c3 z3 hz3 hn3 w hr hr3
end Go.Proofs.Ytkjnmmephhlkgaa
