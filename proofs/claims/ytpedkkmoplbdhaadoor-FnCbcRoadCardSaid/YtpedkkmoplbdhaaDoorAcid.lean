/- Walks: the additional data of a record with a connection ID: numbers. -/
import Derived.Test.YtpedkkmoplbdhaaDoorBld
import Derived.Test.YtpedkkmoplbdhaaDoorKeyMsg
namespace Go.Proofs.YtpedkkmoplbdhaaDoor
open Go.RowKit Go.Cv
set_option maxRecDepth 100000
set_option linter.unusedVariables false
theorem suiteNumber_any (k : Nat) (hk : k ≤ 8) (n : Nat) (w : World) :
    Calls Tryd.prog 89 #[.int .u64 n, .int .i64 k] w fun e w' => e = .returned (.string (S (be k n))) ∧ Below w.heap.size w w' := by
  go_enter Tryd.func89, Tryd.ntmps89
  go_wp2_with fail
  refine upon_make 51 5 (.int .u8 0) 1 Tryd.underlying51 u8info rfl k k rfl rfl (Nat.le_refl _) (by omega) (by simp only [maxLen]; omega) ?_
  intro w1 hown hb hsz
  go_wp2_with fail
  go_loopw [6] (fun i wr => ∃ j : Nat, j ≤ k ∧ i = .int .i64 j ∧ Own wr w.heap.size 1 (some ⟨w.heap.size, 0, none⟩) k k (List.replicate (k - j) (.int .u8 0) ++ vs (be j n)) ∧ Below w.heap.size w wr) (fun i _ => k - (intOf i).toNat)
  case atStart => exact ⟨0, Nat.zero_le _, rfl, by simpa [be, vs] using hown, hb⟩
  case round =>
    obtain ⟨j, hj, rfl, hown', hb'⟩ := hrel
    by_cases hlt : j < k
    · obtain ⟨v, hv, hc, hf⟩ := hown'.at_ (k - 1 - j) (by omega)
      have hset := hown'.set (k - 1 - j) (by omega) (.int .u8 ((n : Int) / 256 ^ j % 256))
      rw [be_step k j n hlt] at hset
      have hb2 := hb'.setCell (p := ⟨w.heap.size, 0 + (k - 1 - j), none⟩) (Nat.le_refl _) (.int .u8 ((n : Int) / 256 ^ j % 256))
      simp only [Nat.zero_add] at hc hf hset hb2
      obtain ⟨s, hs⟩ : ∃ s : Nat, 8 * j = s := ⟨_, rfl⟩
      have hs8 : s ≤ 64 := by omega
      have e1 : IntKind.i64.wrap (8 * (j : Int)) = (s : Int) := by rw [IntKind.wrap_i64]; omega
      clear hv hown' hb' hown hb
      go_wp2_with fail
      have h2 : (2 : Int) ^ s = 256 ^ j := by
        have h : (2 : Nat) ^ s = 256 ^ j := by rw [← hs, Nat.pow_mul]
        have h' := congrArg (fun x : Nat => (x : Int)) h
        simpa using h'
      rw [h2]
      refine ⟨⟨j + 1, by omega, by go_num, hset, hb2⟩, ?_⟩
      simp [intOf]; omega
    · obtain rfl : j = k := by omega
      have hr : Rd wr (some ⟨w.heap.size, 0, none⟩) (vs (be j n)) := by simpa using hown'.rd
      clear hown' hown
      go_wp2_with fail
      refine upon_conv_bs 51 9 5 Tryd.underlying51 Tryd.underlying5 Tryd.underlying9 (be j n) _ _ _ (be_length _ _) hr ?_
      go_wp2_with fail
      go_ret
      exact ⟨rfl, hb'⟩
end Go.Proofs.YtpedkkmoplbdhaaDoor
