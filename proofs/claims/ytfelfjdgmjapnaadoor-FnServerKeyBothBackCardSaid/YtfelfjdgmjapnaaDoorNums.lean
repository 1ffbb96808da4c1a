/- Walks: the laws' lists of numbers: nums, among, all. -/
import Derived.Test.YtfelfjdgmjapnaaDoorBig
import Derived.Test.YtfelfjdgmjapnaaDoorOps6
import Derived.LoopTactic
namespace Go.Proofs.YtfelfjdgmjapnaaDoor
open Go.RowKit Go.Cv
set_option maxRecDepth 100000
set_option linter.unusedVariables false
def zv (zs : List Nat) : List Value := zs.map fun (z : Nat) => Value.int .u16 (z : Int)
def flat (k : Nat) (zs : List Nat) : List UInt8 := zs.flatMap (be k)
theorem flat_length (k : Nat) (zs : List Nat) : (flat k zs).length = zs.length * k := by
  induction zs with
  | nil => simp [flat]
  | cons z r ih =>
    have : flat k (z :: r) = be k z ++ flat k r := rfl
    rw [this, List.length_append, be_length, ih, List.length_cons, Nat.succ_mul]
    omega
theorem flat_take (k : Nat) (zs : List Nat) (j : Nat) (hj : j < zs.length) : flat k (zs.take j) ++ be k (zs.getD j 0) = flat k (zs.take (j + 1)) := by
  have h : zs.take (j + 1) = zs.take j ++ [zs.getD j 0] := by
    rw [List.take_succ_eq_append_getElem hj, List.getD_eq_getElem?_getD, List.getElem?_eq_getElem hj]; rfl
  rw [h]; simp [flat]
theorem numCell {w : World} {b o : Nat} {zs : List Nat} (h : Rd w (some ⟨b, o, none⟩) (zv zs)) (j : Nat) (hj : j < zs.length) : w.cell? ⟨b, o + j, none⟩ = some (.int .u16 (zs.getD j 0 : Nat)) := by
  rcases h with h | ⟨b', o', hA, h⟩
  · have : zs.length = 0 := by have := congrArg List.length h; simpa [zv] using this
    omega
  · injection hA with hA
    injection hA with hb ho
    subst hb ho
    refine h j _ ?_
    simp [zv, List.getElem?_eq_getElem hj, List.getD_eq_getElem?_getD]
theorem among_any (b o n c : Nat) (x : Nat) (zs : List Nat) (hl : zs.length = n) (hn : (n : Int) ≤ 100000) (w : World) (hr : Rd w (some ⟨b, o, none⟩) (zv zs)) :
    Calls Tryd.prog 5 #[.int .u16 x, .slice (some ⟨b, o, none⟩) n c] w fun e w' => e = .returned (.bool (zs.contains x)) ∧ w = w' := by
  have HR := Lib.hid hr
  have HL := Lib.hid hl
  clear hr hl
  go_enter Tryd.func5, Tryd.ntmps5
  go_wp2_with fail
  go_loopw [9] (fun i wr => ∃ j : Nat, j ≤ n ∧ i = .int .i64 j ∧ (∀ k, k < j → zs.getD k 0 ≠ x) ∧ wr = w) (fun i _ => n - (intOf i).toNat)
  case atStart => exact ⟨0, Nat.zero_le _, rfl, fun k hk => absurd hk (by omega), rfl⟩
  case round =>
    obtain ⟨j, hj, rfl, hne, rfl⟩ := hrel
    have HNE := Lib.hid hne
    clear hne
    by_cases hlt : j < n
    · have hc := numCell HR.out j (by rw [HL.out]; exact hlt)
      obtain ⟨z, hz⟩ : ∃ z, zs.getD j 0 = z := ⟨_, rfl⟩
      rw [hz] at hc
      have HZ := Lib.hid hz
      clear hz
      by_cases he : z = x
      · have he' : ((z : Int) == (x : Int)) = true := by simp [he]
        go_wp2_with fail
        go_ret
        refine ⟨?_, rfl⟩
        have : x ∈ zs := by
          rw [← he, ← HZ.out, List.getD_eq_getElem?_getD, List.getElem?_eq_getElem (by have := HL.out; omega)]; exact List.getElem_mem _
        simp [this]
      · have he' : ((z : Int) == (x : Int)) = false := by simp; omega
        go_wp2_with fail
        go_roundw
        case rel => exact ⟨j + 1, by omega, by go_num, fun k hk => by
          by_cases hkj : k = j
          · subst hkj; rw [HZ.out]; exact he
          · exact HNE.out k (by omega), by first | rfl | trivial⟩
        case measure => simp [intOf]; omega
    · obtain rfl : j = n := by omega
      go_wp2_with fail
      go_ret
      refine ⟨?_, rfl⟩
      have : x ∉ zs := fun hm => by
        obtain ⟨k, hk, hx⟩ := List.getElem_of_mem hm
        refine HNE.out k (by have := HL.out; omega) ?_
        rw [List.getD_eq_getElem?_getD, List.getElem?_eq_getElem hk]; exact hx
      simp [this]
end Go.Proofs.YtfelfjdgmjapnaaDoor
