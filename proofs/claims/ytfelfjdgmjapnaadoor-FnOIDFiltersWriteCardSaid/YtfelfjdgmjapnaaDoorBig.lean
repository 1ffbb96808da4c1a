/- Walks of the laws' small helpers: big, vec, framedExt, text, PutUint16. -/
import Derived.Test.YtfelfjdgmjapnaaDoorProg
import Derived.Test.YtfelfjdgmjapnaaDoorOps
import Derived.LoopTactic
namespace Go.Proofs.YtfelfjdgmjapnaaDoor
open Go.RowKit Go.Cv
set_option maxRecDepth 100000
set_option linter.unusedVariables false
theorem u8info : (Tryd.prog.info? 5).map (fun i => (i.zero, i.size, i.bytes)) = some (some (.int .u8 0), 1, 1) := by kernel_rfl
def be : Nat → Nat → List UInt8
  | 0, _ => []
  | i + 1, n => UInt8.ofNat (n / 256 ^ i) :: be i n
theorem be_length (k n : Nat) : (be k n).length = k := by
  induction k with
  | zero => rfl
  | succ k ih => simp [be, ih]
theorem be_step (k j n : Nat) (hj : j < k) : (List.replicate (k - j) (Value.int .u8 0) ++ vs (be j n)).set (k - 1 - j) (.int .u8 ((n : Int) / 256 ^ j % 256)) =
    List.replicate (k - (j + 1)) (Value.int .u8 0) ++ vs (be (j + 1) n) := by
  have h1 : k - j = (k - (j + 1)) + 1 := by omega
  have h2 : k - 1 - j = k - (j + 1) := by omega
  rw [h1, h2, List.replicate_succ', List.append_assoc, List.set_append_right _ _ (by simp)]
  simp only [List.length_replicate, Nat.sub_self]
  congr 1
theorem big_any (k : Nat) (hk : k ≤ 8) (n : Nat) (w : World) :
    Calls Tryd.prog 8 #[.int .u64 n, .int .i64 k] w fun e w' => e = .returned (.string (S (be k n))) ∧ Below w.heap.size w w' := by
  go_enter Tryd.func8, Tryd.ntmps8
  go_wp2_with fail
  refine upon_make 26 5 (.int .u8 0) 1 Tryd.underlying26 u8info rfl k k rfl rfl (Nat.le_refl _) (by omega) (by simp only [maxLen]; omega) ?_
  intro w1 hown hb hsz
  go_wp2_with fail
  go_loopw [0, 11] (fun x i wr => ∃ j : Nat, j ≤ k ∧ i = .int .i64 j ∧ x = .int .u64 ((n / 256 ^ j : Nat) : Int) ∧ Own wr w.heap.size 1 (some ⟨w.heap.size, 0, none⟩) k k (List.replicate (k - j) (.int .u8 0) ++ vs (be j n)) ∧ Below w.heap.size w wr) (fun _ i _ => k - (intOf i).toNat)
  case atStart => exact ⟨0, Nat.zero_le _, rfl, by simp, by simpa [be, vs] using hown, hb⟩
  case round =>
    obtain ⟨j, hj, rfl, rfl, hown', hb'⟩ := hrel
    by_cases hlt : j < k
    · obtain ⟨v, hv, hc, hf⟩ := hown'.at_ (k - 1 - j) (by omega)
      have hset := hown'.set (k - 1 - j) (by omega) (.int .u8 ((n : Int) / 256 ^ j % 256))
      rw [be_step k j n hlt] at hset
      have hb2 := hb'.setCell (p := ⟨w.heap.size, 0 + (k - 1 - j), none⟩) (Nat.le_refl _) (.int .u8 ((n : Int) / 256 ^ j % 256))
      simp only [Nat.zero_add] at hc hf hset hb2
      clear hv hown' hb' hown hb
      go_wp2_with fail
      go_roundw
      case rel =>
        refine ⟨j + 1, by omega, by go_num, ?_, hset, hb2⟩
        congr 1
        rw [Nat.pow_succ, ← Nat.div_div_eq_div_mul]
        simp
      case measure => simp [intOf]; omega
    · obtain rfl : j = k := by omega
      have hr : Rd wr (some ⟨w.heap.size, 0, none⟩) (vs (be j n)) := by simpa using hown'.rd
      clear hown' hown
      go_wp2_with fail
      refine upon_conv_bs 26 9 5 Tryd.underlying26 Tryd.underlying5 Tryd.underlying9 (be j n) _ _ _ (be_length _ _) hr ?_
      go_wp2_with fail
      go_ret
      exact ⟨rfl, hb'⟩

theorem vec_any (k : Nat) (hk : k ≤ 8) (l : List UInt8) (hl : l.length ≤ 4611686018427387904) (w : World) :
    Calls Tryd.prog 7 #[.string (S l), .int .i64 k] w fun e w' => e = .returned (.string (S (be k l.length ++ l))) ∧ Below w.heap.size w w' := by
  have h3 : (S l).size = l.length := S_size l
  have h5 := fun w1 => run_add (P := Tryd.prog) (be k l.length) l (by rw [be_length]; omega) w1
  have h6 : IntKind.u64.wrap (l.length : Int) = (l.length : Int) := by rw [IntKind.wrap_u64]; omega
  clear hl
  go_enter Tryd.func7, Tryd.ntmps7
  go_wp2_with fail
  refine (big_any k hk l.length w).mono ?_
  rintro e w1 ⟨rfl, hb1⟩
  go_wp2_with fail
  go_ret
  exact ⟨rfl, hb1⟩
theorem framedExt_any (t : Nat) (ht : (t : Int) < 65536) (l : List UInt8) (hl : l.length ≤ 4611686018427387900) (w : World) :
    Calls Tryd.prog 13 #[.int .u16 t, .string (S l)] w fun e w' => e = .returned (.string (S (be 2 t ++ (be 2 l.length ++ l)))) ∧ Below w.heap.size w w' := by
  have h5 := fun w1 => run_add (P := Tryd.prog) (be 2 t) (be 2 l.length ++ l) (by rw [List.length_append, be_length, be_length]; omega) w1
  have HL : Hid (l.length ≤ 4611686018427387904) := show l.length ≤ 4611686018427387904 by omega
  clear hl
  go_enter Tryd.func13, Tryd.ntmps13
  go_wp2_with fail
  refine (big_any 2 (by omega) t w).mono ?_
  rintro e w1 ⟨rfl, hb1⟩
  go_wp2_with fail
  refine (vec_any 2 (by omega) l HL.out w1).mono ?_
  rintro e w2 ⟨rfl, hb2⟩
  go_wp2_with fail
  go_ret
  exact ⟨rfl, hb1.trans (hb2.mono hb1.size)⟩
theorem text_any (A : Option Addr) (n c : Nat) (l : List UInt8) (hl : l.length = n) (w : World) (hr : Rd w A (vs l)) :
    Calls Tryd.prog 29 #[.slice A n c, .nilIface] w fun e w' => e = .returned (.tuple #[.string (S l), .bool true]) ∧ w = w' := by
  go_enter Tryd.func29, Tryd.ntmps29
  go_wp2_with fail
  refine upon_conv_bs 26 9 5 Tryd.underlying26 Tryd.underlying5 Tryd.underlying9 l A n c hl hr ?_
  go_wp2_with fail
  go_ret2
  exact ⟨rfl, rfl⟩
end Go.Proofs.YtfelfjdgmjapnaaDoor
