/- Walks: the reference's header of a handshake message; a piece's record; a whole message. -/
import Derived.Test.YtadblfnggmaadaaDoorFgD0
import Derived.Test.YtadblfnggmaadaaDoorFgP
import Derived.LoopTactic
import Derived.Deep.RegionHeldLaw
namespace Go.Proofs.YtadblfnggmaadaaDoor
open Go.RowKit Go.Cv
set_option maxRecDepth 100000
set_option linter.unusedVariables false
theorem be_get : ∀ (k n j : Nat), j < k → (be k n)[j]? = some (UInt8.ofNat (n / 256 ^ (k - 1 - j)))
  | 0, n, j, h => by omega
  | k + 1, n, 0, h => by simp [be]
  | k + 1, n, j + 1, h => by
    rw [be, List.getElem?_cons_succ, be_get k n j (by omega), show k + 1 - 1 - (j + 1) = k - 1 - j by omega]
theorem be_take (k n j : Nat) (h : j < k) : (be k n).take (j + 1) = (be k n).take j ++ [UInt8.ofNat (n / 256 ^ (k - 1 - j))] := by
  rw [List.take_add_one, be_get k n j h]
  rfl
set_option maxHeartbeats 1000000 in
theorem recNum_any (k : Nat) (hk : k ≤ 8) (n : Nat) (w : World) :
    Calls Tryd.prog 30 #[.int .u64 n, .int .i64 k] w fun e w' => e = .returned (.string (S (be k n))) ∧ Below w.heap.size w w' := by
  have HK := Lib.hid hk
  have w0 : wrap64 ((k : Int) - 1) = (k : Int) - 1 := by unfold wrap64; omega
  have w1 : IntKind.i64.wrap ((k : Int) - 1) = (k : Int) - 1 := by rw [IntKind.wrap_i64]; omega
  clear hk
  go_enter Tryd.func30, Tryd.ntmps30
  go_wp2_with fail
  clear w0 w1
  go_loopw [6, 5] (fun x y wr => ∃ (j co : Nat) (O : Option Addr), j ≤ k ∧ x = .int .i64 ((k : Int) - 1 - (j : Int)) ∧ y = .slice O j co ∧ Hid (Own wr 0 1 O j co (vs ((be k n).take j)) ∧ Hi w.heap.size O ∧ Below w.heap.size w wr)) (fun x _ _ => (intOf x + 1).toNat)
  case atStart => exact ⟨0, 0, none, Nat.zero_le _, by simp, rfl, Lib.hid ⟨Own.nil _ _ _, .inl rfl, Below.refl _ _⟩⟩
  case round =>
    obtain ⟨j, co, O, hj, rfl, rfl, HI⟩ := hrel
    by_cases hlt : j < k
    · obtain ⟨i, hi⟩ : ∃ i, k - 1 - j = i := ⟨_, rfl⟩
      have e0 : (k : Int) - 1 - (j : Int) = (i : Int) := by omega
      rw [e0]
      obtain ⟨s, hs⟩ : ∃ s : Nat, 8 * i = s := ⟨_, rfl⟩
      have hs8 : s ≤ 64 := by have := HK.out; omega
      have e1 : IntKind.i64.wrap (8 * (i : Int)) = (s : Int) := by rw [IntKind.wrap_i64]; omega
      have e2 : wrap64 (8 * (i : Int)) = (s : Int) := by unfold wrap64; omega
      have HIJ := Lib.hid (And.intro hlt (And.intro hi (And.intro hs e0)))
      have HW : Hid (wrap64 ((i : Int) - 1) = (i : Int) - 1 ∧ IntKind.i64.wrap ((i : Int) - 1) = (i : Int) - 1) := Lib.hid (by have := HK.out; exact ⟨by unfold wrap64; omega, by rw [IntKind.wrap_i64]; omega⟩)
      clear hlt hi hs e0 hj
      go_wp2_with (at_builtin; refine Held.on ?_)
      refine held_append rfl (.tmp 13) (.tmp 19) 65 65 rfl 0 5 _ 1 1 Tryd.underlying65 (.inl Tryd.underlying65) u8info rfl (by omega) (xs := vs ((be k n).take j)) (ys := [.int .u8 ((n : Int) / (2 : Int) ^ s % 256)]) (m := 1) rfl rfl (HI.out.1.keep (below_alloc wr _)) ⟨rfl, by intro v h; simp at h; subst h; rfl, .inl ⟨_, _, rfl, rd_single _ _ _⟩⟩ (by have := HK.out; have := HIJ.out; omega) (by have := HK.out; have := HIJ.out; simp only [maxLen]; omega) (Nat.zero_le _) ?_
      intro O' co' w9 hO hg hor
      have hz := HI.out.2.2.size
      have HN : Hid (Own w9 0 1 O' (j + 1) co' (vs ((be k n).take (j + 1))) ∧ Hi w.heap.size O' ∧ Below w.heap.size w w9) := Lib.hid ⟨by
        have h2 : (2 : Int) ^ s = 256 ^ i := by
          have h : (2 : Nat) ^ s = 256 ^ i := by rw [← HIJ.out.2.2.1, Nat.pow_mul]
          have h' := congrArg (fun x : Nat => (x : Int)) h
          simpa using h'
        rw [be_take k n j HIJ.out.1, HIJ.out.2.1, vs_append]
        have h3 : vs [UInt8.ofNat (n / 256 ^ i)] = [.int .u8 ((n : Int) / (2 : Int) ^ s % 256)] := by
          rw [h2]
          simp [vs]
        rw [h3]
        exact hO, HI.out.2.1.new hor (by simp; omega), ((Tch.below (below_two HI.out.2.2 (below_alloc wr _)) []).then (Tch.grown hg) (fun q hq => .inr (HI.out.2.1.inn q hq))).toBelow (Nat.le_refl _)⟩
      clear hO hg hor hz
      obtain ⟨w2, w3⟩ := HW.out
      clear e1 e2
      go_wp2_with fail
      go_roundw
      case rel => exact ⟨j + 1, co', O', HIJ.out.1, by first | (rw [w2]; have := HIJ.out.2.2.2; congr 1; omega) | (have := HIJ.out.2.2.2; congr 1; omega), rfl, HN⟩
      case measure => first | (simp [intOf]; done) | (simp [intOf]; omega) | (rw [w2]; simp [intOf]; done) | (rw [w2]; simp [intOf]; omega)
    · obtain rfl : j = k := by omega
      have e0 : (j : Int) - 1 - (j : Int) = -1 := by omega
      rw [e0]
      have hr : Rd wr O (vs (be j n)) := by
        have h := HI.out.1.rd
        rwa [List.take_of_length_le (by rw [be_length]; exact Nat.le_refl _)] at h
      have HR := Lib.hid hr
      clear e0 hlt hj hr
      go_wp2_with fail
      refine upon_conv_bs 65 9 5 Tryd.underlying65 Tryd.underlying5 Tryd.underlying9 (be j n) _ _ _ (be_length _ _) HR.out ?_
      go_wp2_with fail
      go_ret
      exact ⟨rfl, HI.out.2.2⟩
end Go.Proofs.YtadblfnggmaadaaDoor
