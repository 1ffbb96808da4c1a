/- Walks of the laws' small helpers: big, vec, framedExt, text, PutUint16. -/
import Derived.Test.YtadblfnggmaadaaDoorProg
import Derived.Test.YtadblfnggmaadaaDoorBase
import Derived.LoopTactic
namespace Go.Proofs.YtadblfnggmaadaaDoor
open Go.RowKit Go.Cv
set_option maxRecDepth 100000
set_option linter.unusedVariables false
theorem u8info : (Tryd.prog.info? 5).map (fun i => (i.zero, i.size, i.bytes)) = some (some (.int .u8 0), 1, 1) := by kernel_rfl
def be : Nat → Nat → List UInt8
  | 0, _ => []
  | i + 1, n => UInt8.ofNat (n / 256 ^ i) :: be i n
theorem be_length (k n : Nat) : (be k n).length = k := by
  induction k with
  | zero => rfl
  | succ k ih => simp [be, ih]
theorem be_step (k j n : Nat) (hj : j < k) : (List.replicate (k - j) (Value.int .u8 0) ++ vs (be j n)).set (k - 1 - j) (.int .u8 ((n : Int) / 256 ^ j % 256)) =
    List.replicate (k - (j + 1)) (Value.int .u8 0) ++ vs (be (j + 1) n) := by
  have h1 : k - j = (k - (j + 1)) + 1 := by omega
  have h2 : k - 1 - j = k - (j + 1) := by omega
  rw [h1, h2, List.replicate_succ', List.append_assoc, List.set_append_right _ _ (by simp)]
  simp only [List.length_replicate, Nat.sub_self]
  congr 1
theorem big_any (k : Nat) (hk : k ≤ 8) (n : Nat) (w : World) :
    Calls Tryd.prog 29 #[.int .u64 n, .int .i64 k] w fun e w' => e = .returned (.string (S (be k n))) ∧ Below w.heap.size w w' := by
  go_enter Tryd.func29, Tryd.ntmps29
  go_wp2_with fail
  refine upon_make 65 5 (.int .u8 0) 1 Tryd.underlying65 u8info rfl k k rfl rfl (Nat.le_refl _) (by omega) (by simp only [maxLen]; omega) ?_
  intro w1 hown hb hsz
  go_wp2_with fail
  go_loopw [0, 11] (fun x i wr => ∃ j : Nat, j ≤ k ∧ i = .int .i64 j ∧ x = .int .u64 ((n / 256 ^ j : Nat) : Int) ∧ Own wr w.heap.size 1 (some ⟨w.heap.size, 0, none⟩) k k (List.replicate (k - j) (.int .u8 0) ++ vs (be j n)) ∧ Below w.heap.size w wr) (fun _ i _ => k - (intOf i).toNat)
  case atStart => exact ⟨0, Nat.zero_le _, rfl, by simp, by simpa [be, vs] using hown, hb⟩
  case round =>
    obtain ⟨j, hj, rfl, rfl, hown', hb'⟩ := hrel
    by_cases hlt : j < k
    · obtain ⟨v, hv, hc, hf⟩ := hown'.at_ (k - 1 - j) (by omega)
      have hset := hown'.set (k - 1 - j) (by omega) (.int .u8 ((n : Int) / 256 ^ j % 256))
      rw [be_step k j n hlt] at hset
      have hb2 := hb'.setCell (p := ⟨w.heap.size, 0 + (k - 1 - j), none⟩) (Nat.le_refl _) (.int .u8 ((n : Int) / 256 ^ j % 256))
      simp only [Nat.zero_add] at hc hf hset hb2
      clear hv hown' hb' hown hb
      go_wp2_with fail
      go_roundw
      case rel =>
        refine ⟨j + 1, by omega, by go_num, ?_, hset, hb2⟩
        congr 1
        rw [Nat.pow_succ, ← Nat.div_div_eq_div_mul]
        simp
      case measure => simp [intOf]; omega
    · obtain rfl : j = k := by omega
      have hr : Rd wr (some ⟨w.heap.size, 0, none⟩) (vs (be j n)) := by simpa using hown'.rd
      clear hown' hown
      go_wp2_with fail
      refine upon_conv_bs 65 9 5 Tryd.underlying65 Tryd.underlying5 Tryd.underlying9 (be j n) _ _ _ (be_length _ _) hr ?_
      go_wp2_with fail
      go_ret
      exact ⟨rfl, hb'⟩

theorem put16_any (B b o n c p k m c' : Nat) (xs : List Value) (v : Nat) (w : World) (hown : Own w B 1 (some ⟨b, o, none⟩) n c xs) (hp : p = o + k) (hk : k + 2 ≤ n) (hm : 2 ≤ m) :
    Calls Tryd.prog 53 #[.agg #[], .slice (some ⟨b, p, none⟩) m c', .int .u16 v] w fun e w' =>
      e = .returned (.tuple #[]) ∧ Own w' B 1 (some ⟨b, o, none⟩) n c ((xs.set k (.int .u8 ((v : Int) / 256 % 256))).set (k + 1) (.int .u8 ((v : Int) % 256))) ∧ w.grownBy w' (some b) := by
  subst hp
  obtain ⟨v0, _, hc0, hf0⟩ := hown.at_ k (by omega)
  obtain ⟨v1, _, hc1, hf1⟩ := hown.at_ (k + 1) (by omega)
  have hb0 := block_lt hc0
  have hs0 := (hown.set k (by omega) (.int .u8 ((v : Int) / 256 % 256))).set (k + 1) (by omega) (.int .u8 ((v : Int) % 256))
  have hs := hs0.keep ((Below.refl _ _).alloc (Nat.le_refl _) (.cells #[] 121))
  simp only [← Nat.add_assoc] at hc1 hf1 hs
  clear hs0
  have hg : w.grownBy (((w.setCell ⟨b, o + k, none⟩ (.int .u8 ((v : Int) / 256 % 256))).setCell ⟨b, o + k + 1, none⟩ (.int .u8 ((v : Int) % 256))).alloc (.cells #[] 121)) (some b) :=
    ⟨rfl, rfl, rfl, by simp, fun j hj hne => by
      rw [Below.heap_alloc _ _ _ (by simp; exact hj), Below.heap_setCell _ _ _ _ (fun e => hne (by rw [e])), Below.heap_setCell _ _ _ _ (fun e => hne (by rw [e]))]⟩
  clear hown
  go_enter Tryd.func53, Tryd.ntmps53
  go_wp2_with fail
  go_end0
  exact ⟨rfl, hs, hg⟩
end Go.Proofs.YtadblfnggmaadaaDoor
