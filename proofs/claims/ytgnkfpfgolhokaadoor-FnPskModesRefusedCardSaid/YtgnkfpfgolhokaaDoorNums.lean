/- Walks: the laws' lists of numbers: nums, among, all. -/
import Derived.Test.YtgnkfpfgolhokaaDoorBig
import Derived.Test.YtgnkfpfgolhokaaDoorOps6
import Derived.LoopTactic
namespace Go.Proofs.YtgnkfpfgolhokaaDoor
open Go.RowKit Go.Cv
set_option maxRecDepth 100000
set_option linter.unusedVariables false
def zv (zs : List Nat) : List Value := zs.map fun (z : Nat) => Value.int .u16 (z : Int)
def flat (k : Nat) (zs : List Nat) : List UInt8 := zs.flatMap (be k)
theorem flat_length (k : Nat) (zs : List Nat) : (flat k zs).length = zs.length * k := by
  induction zs with
  | nil => simp [flat]
  | cons z r ih =>
    have : flat k (z :: r) = be k z ++ flat k r := rfl
    rw [this, List.length_append, be_length, ih, List.length_cons, Nat.succ_mul]
    omega
theorem flat_take (k : Nat) (zs : List Nat) (j : Nat) (hj : j < zs.length) : flat k (zs.take j) ++ be k (zs.getD j 0) = flat k (zs.take (j + 1)) := by
  have h : zs.take (j + 1) = zs.take j ++ [zs.getD j 0] := by
    rw [List.take_succ_eq_append_getElem hj, List.getD_eq_getElem?_getD, List.getElem?_eq_getElem hj]; rfl
  rw [h]; simp [flat]
theorem numCell {w : World} {b o : Nat} {zs : List Nat} (h : Rd w (some ⟨b, o, none⟩) (zv zs)) (j : Nat) (hj : j < zs.length) : w.cell? ⟨b, o + j, none⟩ = some (.int .u16 (zs.getD j 0 : Nat)) := by
  rcases h with h | ⟨b', o', hA, h⟩
  · have : zs.length = 0 := by have := congrArg List.length h; simpa [zv] using this
    omega
  · injection hA with hA
    injection hA with hb ho
    subst hb ho
    refine h j _ ?_
    simp [zv, List.getElem?_eq_getElem hj, List.getD_eq_getElem?_getD]
theorem nums_nil (A : Option Addr) (c k : Nat) (w : World) :
    Calls Tryd.prog 24 #[.slice A 0 c, .int .i64 k] w fun e w' => e = .returned (.string (S [])) ∧ Below w.heap.size w w' := by
  go_enter Tryd.func24, Tryd.ntmps24
  go_wp2_with fail
  refine wp_loop_rounds 1 ?_
  rw [rounds_succ]
  go_wp2_with fail
  go_ret
  exact ⟨rfl, Below.refl _ _⟩
theorem nums_any (b o n c k : Nat) (zs : List Nat) (hl : zs.length = n) (hn : (n : Int) ≤ 100000) (hk : k ≤ 8) (hz : ∀ z ∈ zs, z < 65536) (w : World) (hr : Rd w (some ⟨b, o, none⟩) (zv zs)) :
    Calls Tryd.prog 24 #[.slice (some ⟨b, o, none⟩) n c, .int .i64 k] w fun e w' => e = .returned (.string (S (flat k zs))) ∧ Below w.heap.size w w' := by
  have HR := Lib.hid hr
  have HL := Lib.hid hl
  have HZ : Hid (∀ j, j < n → zs.getD j 0 < 65536) := fun j hj => hz _ (by rw [List.getD_eq_getElem?_getD, List.getElem?_eq_getElem (by omega)]; exact List.getElem_mem _)
  have HA : Hid (∀ j w1, j < n → (Op.stringOp .add (S (flat k (zs.take j))) (S (be k (zs.getD j 0)))).run Tryd.prog w1 = .ok (.string (S (flat k (zs.take (j + 1))))) w1) := fun j w1 hj =>
    run_add_eq _ _ _ (flat_take k zs j (by omega)) (by rw [flat_length]; have : (zs.take (j + 1)).length ≤ zs.length := by simp; omega
                                                       have h2 := Nat.mul_le_mul this hk; omega) w1
  clear hr hl hz
  go_enter Tryd.func24, Tryd.ntmps24
  go_wp2_with fail
  go_loopw [5, 10] (fun x i wr => ∃ j : Nat, j ≤ n ∧ i = .int .i64 j ∧ x = .string (S (flat k (zs.take j))) ∧ Below w.heap.size w wr) (fun _ i _ => n - (intOf i).toNat)
  case atStart => exact ⟨0, Nat.zero_le _, rfl, rfl, Below.refl _ _⟩
  case round =>
    obtain ⟨j, hj, rfl, rfl, hb'⟩ := hrel
    by_cases hlt : j < n
    · have hc := numCell (HR.out.keep hb') j (by rw [HL.out]; exact hlt)
      have ha := fun w1 => HA.out j w1 hlt
      have hz1 := HZ.out j hlt
      generalize zs.getD j 0 = x at hc ha hz1
      have hw1 : IntKind.u64.wrap (x : Int) = x := by rw [IntKind.wrap_u64]; omega
      have hw2 : (x : Int) % 18446744073709551616 = x := by clear hw1; omega
      clear hz1
      go_wp2_with fail
      refine (big_any k hk x wr).mono ?_
      rintro e w1 ⟨rfl, hb1⟩
      go_wp2_with fail
      go_roundw
      case rel => exact ⟨j + 1, by omega, by go_num, rfl, below_two hb' hb1⟩
      case measure => simp [intOf]; omega
    · obtain rfl : j = n := by omega
      have ht : zs.take j = zs := List.take_of_length_le (by rw [HL.out]; exact Nat.le_refl _)
      go_wp2_with fail
      go_ret
      rw [ht]
      exact ⟨rfl, hb'⟩
theorem among_any (b o n c : Nat) (x : Nat) (zs : List Nat) (hl : zs.length = n) (hn : (n : Int) ≤ 100000) (w : World) (hr : Rd w (some ⟨b, o, none⟩) (zv zs)) :
    Calls Tryd.prog 33 #[.int .u16 x, .slice (some ⟨b, o, none⟩) n c] w fun e w' => e = .returned (.bool (zs.contains x)) ∧ w = w' := by
  have HR := Lib.hid hr
  have HL := Lib.hid hl
  clear hr hl
  go_enter Tryd.func33, Tryd.ntmps33
  go_wp2_with fail
  go_loopw [9] (fun i wr => ∃ j : Nat, j ≤ n ∧ i = .int .i64 j ∧ (∀ k, k < j → zs.getD k 0 ≠ x) ∧ wr = w) (fun i _ => n - (intOf i).toNat)
  case atStart => exact ⟨0, Nat.zero_le _, rfl, fun k hk => absurd hk (by omega), rfl⟩
  case round =>
    obtain ⟨j, hj, rfl, hne, rfl⟩ := hrel
    have HNE := Lib.hid hne
    clear hne
    by_cases hlt : j < n
    · have hc := numCell HR.out j (by rw [HL.out]; exact hlt)
      obtain ⟨z, hz⟩ : ∃ z, zs.getD j 0 = z := ⟨_, rfl⟩
      rw [hz] at hc
      have HZ := Lib.hid hz
      clear hz
      by_cases he : z = x
      · have he' : ((z : Int) == (x : Int)) = true := by simp [he]
        go_wp2_with fail
        go_ret
        refine ⟨?_, rfl⟩
        have : x ∈ zs := by
          rw [← he, ← HZ.out, List.getD_eq_getElem?_getD, List.getElem?_eq_getElem (by have := HL.out; omega)]; exact List.getElem_mem _
        simp [this]
      · have he' : ((z : Int) == (x : Int)) = false := by simp; omega
        go_wp2_with fail
        go_roundw
        case rel => exact ⟨j + 1, by omega, by go_num, fun k hk => by
          by_cases hkj : k = j
          · subst hkj; rw [HZ.out]; exact he
          · exact HNE.out k (by omega), by first | rfl | trivial⟩
        case measure => simp [intOf]; omega
    · obtain rfl : j = n := by omega
      go_wp2_with fail
      go_ret
      refine ⟨?_, rfl⟩
      have : x ∉ zs := fun hm => by
        obtain ⟨k, hk, hx⟩ := List.getElem_of_mem hm
        refine HNE.out k (by have := HL.out; omega) ?_
        rw [List.getD_eq_getElem?_getD, List.getElem?_eq_getElem hk]; exact hx
      simp [this]
theorem all_any (b o n c b2 o2 n2 c2 : Nat) (zs ys : List Nat) (hl : zs.length = n) (hn : (n : Int) ≤ 100000) (hl2 : ys.length = n2) (hn2 : (n2 : Int) ≤ 100000) (h0 : 0 < n) (w : World) (hr : Rd w (some ⟨b, o, none⟩) (zv zs)) (hr2 : Rd w (some ⟨b2, o2, none⟩) (zv ys)) :
    Calls Tryd.prog 21 #[.slice (some ⟨b, o, none⟩) n c, .slice (some ⟨b2, o2, none⟩) n2 c2] w fun e w' => e = .returned (.bool (zs.all (ys.contains ·))) ∧ w = w' := by
  have HR := Lib.hid hr
  have HL := Lib.hid hl
  have HA := Lib.hid (fun x => among_any b2 o2 n2 c2 x ys hl2 hn2 w hr2)
  clear hr hl hr2 hl2 hn2
  go_enter Tryd.func21, Tryd.ntmps21
  go_wp2_with fail
  go_loopw [9] (fun i wr => ∃ j : Nat, j ≤ n ∧ i = .int .i64 j ∧ (∀ k, k < j → ys.contains (zs.getD k 0) = true) ∧ wr = w) (fun i _ => n - (intOf i).toNat)
  case atStart => exact ⟨0, Nat.zero_le _, rfl, fun k hk => absurd hk (by omega), rfl⟩
  case round =>
    obtain ⟨j, hj, rfl, hne, rfl⟩ := hrel
    have HNE := Lib.hid hne
    clear hne
    by_cases hlt : j < n
    · have hc := numCell HR.out j (by rw [HL.out]; exact hlt)
      obtain ⟨z, hz⟩ : ∃ z, zs.getD j 0 = z := ⟨_, rfl⟩
      rw [hz] at hc
      have HZ := Lib.hid hz
      clear hz
      go_wp2_with fail
      refine (HA.out z).mono ?_
      rintro e w1 ⟨rfl, rfl⟩
      obtain ⟨v, hv⟩ : ∃ v, ys.contains z = v := ⟨_, rfl⟩
      rw [hv]
      have HV := Lib.hid hv
      clear hv
      cases v with
      | false =>
        go_wp2_with fail
        go_ret
        refine ⟨?_, rfl⟩
        have hm : z ∈ zs := by
          rw [← HZ.out, List.getD_eq_getElem?_getD, List.getElem?_eq_getElem (by have := HL.out; omega)]; exact List.getElem_mem _
        have : zs.all (ys.contains ·) = false := by
          rw [List.all_eq_false]
          exact ⟨z, hm, by rw [HV.out]; simp⟩
        rw [this]; rfl
      | true =>
        go_wp2_with fail
        go_roundw
        case rel => exact ⟨j + 1, by omega, by go_num, fun k hk => by
          by_cases hkj : k = j
          · subst hkj; rw [HZ.out]; exact HV.out
          · exact HNE.out k (by omega), by first | rfl | trivial⟩
        case measure => simp [intOf]; omega
    · obtain rfl : j = n := by omega
      go_wp2_with fail
      go_ret
      refine ⟨?_, rfl⟩
      have : zs.all (ys.contains ·) = true := by
        rw [List.all_eq_true]
        intro x hx
        obtain ⟨k, hk, hx⟩ := List.getElem_of_mem hx
        have := HNE.out k (by have := HL.out; omega)
        rw [List.getD_eq_getElem?_getD, List.getElem?_eq_getElem hk] at this
        rw [← hx]; exact this
      rw [this]; simp
end Go.Proofs.YtgnkfpfgolhokaaDoor
