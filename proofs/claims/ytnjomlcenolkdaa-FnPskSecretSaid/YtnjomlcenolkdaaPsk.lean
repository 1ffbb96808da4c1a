/- Walks: the secret of a pre-shared key. -/
import Derived.Test.YtnjomlcenolkdaaBig
import Derived.Test.YtnjomlcenolkdaaRow
import Derived.Deep.RegionHeld3
namespace Go.Proofs.Ytnjomlcenolkdaa
open Go.RowKit Go.Cv
set_option maxRecDepth 100000
def pskSec (l : List UInt8) : List UInt8 := be 2 l.length ++ (List.replicate l.length 0 ++ (be 2 l.length ++ l))
theorem be2 (n : Nat) : vs (be 2 n) = [.int .u8 ((n : Int) / 256 % 256), .int .u8 ((n : Int) % 256)] := by
  simp [be, vs]
theorem psk_cells (l : List UInt8) (x y : Value) : (((((List.replicate (2 + l.length + 2) (Value.int .u8 0) ++ vs l).set 0 x).set (0 + 1) y).set (2 + l.length) x).set (2 + l.length + 1) y) =
    [x, y] ++ (List.replicate l.length (Value.int .u8 0) ++ ([x, y] ++ vs l)) := by
  have h1 : List.replicate (2 + l.length + 2) (Value.int .u8 0) = [.int .u8 0, .int .u8 0] ++ (List.replicate l.length (Value.int .u8 0) ++ [.int .u8 0, .int .u8 0]) := by
    rw [show 2 + l.length + 2 = 2 + (l.length + 2) by omega, ← List.replicate_append_replicate, ← List.replicate_append_replicate]
    rfl
  rw [h1]
  simp only [List.append_assoc, List.cons_append, List.nil_append, List.set_cons_zero, List.set_cons_succ, Nat.zero_add]
  rw [show 2 + l.length = l.length + 1 + 1 by omega]
  simp only [List.set_cons_succ]
  rw [List.set_append_right _ _ (by simp)]
  simp only [List.length_replicate, Nat.sub_self, List.set_cons_zero]
  rw [List.set_append_right _ _ (by simp)]
  simp only [List.length_replicate, show l.length + 1 - l.length = 1 by omega, List.set_cons_zero, List.set_cons_succ]
theorem preMaster_any (A : Option Addr) (n c : Nat) (l : List UInt8) (hl : l.length = n) (h6 : (n : Int) ≤ 65000) (w : World) (hr : Rd w A (vs l)) :
    Calls Try.prog 25 #[.slice A n c] w fun e w' => ∃ A' n' c', e = .returned (.slice A' n' c') ∧ (pskSec l).length = n' ∧ Rd w' A' (vs (pskSec l)) ∧ Below w.heap.size w w' := by
  go_enter Try.func25, Try.ntmps25
  go_wp2_with (at_builtin; refine Held.on ?_)
  refine upon_make 26 5 (.int .u8 0) 1 Try.underlying26 u8info rfl (2 + n + 2) (2 + n + 2) (by omega) (by omega) (Nat.le_refl _) (by omega) (by simp only [maxLen]; omega) ?_
  intro w1 hown hb hsz
  go_wp2_with (at_builtin; refine Held.on ?_)
  refine held_append rfl (.tmp 11) (.tmp 12) 26 26 rfl w.heap.size 5 _ 1 1 Try.underlying26 (.inl Try.underlying26) u8info rfl (by omega) (ys := vs l) rfl rfl hown
    ⟨by rw [vs_length]; omega, vs_one l, .inl ⟨A, c, rfl, hr.keep hb⟩⟩ (by omega) (by simp only [maxLen]; omega) (by omega) ?_
  intro A' c' w2 hown2 hg hor
  have hb2 : Below w.heap.size w w2 := hb.trans (below_grown hg hown (by omega) (fun h => by omega))
  have hA : ∃ b, A' = some ⟨b, 0, none⟩ ∧ w.heap.size ≤ b := by
    rcases hor with ⟨h, _⟩ | h
    · exact ⟨_, h, Nat.le_refl _⟩
    · exact ⟨_, h, by omega⟩
  obtain ⟨b, rfl, hbb⟩ := hA
  clear hor hg hown hb hsz
  have hc1 : 2 + n + 2 + n ≤ c' := hown2.2.1
  have hne : ¬ c' = 2 + n := by omega
  go_wp2_with fail
  refine (put16_any w.heap.size b 0 _ c' 0 0 _ c' _ n _ hown2 rfl (by omega) (by omega)).mono ?_
  rintro e w3 ⟨rfl, hown3, hg3⟩
  have hb3 : Below w.heap.size w w3 := hb2.grown hg3 hb2.size (fun k hk => by simp at hk; omega)
  clear hg3 hown2 hb2
  go_wp2_with fail
  have e1 : IntKind.u16.wrap (2 + (n : Int)) = 2 + (n : Int) := by rw [IntKind.wrap_u16]; omega
  have e2 : (0 : Int) ≤ 2 + (n : Int) := by omega
  have e3 : (2 : Int) + (n : Int) ≤ 2 + (n : Int) + 2 + (n : Int) := by omega
  have e4 : ((2 : Int) + (n : Int)).toNat = 2 + n := by omega
  go_region_held3 (fun _ => True) (trivial) (first
    | (go_at_call 49; refine (put16_any w.heap.size b 0 _ c' (2 + n) (2 + n) _ _ _ n _ (hown3.keep ((Below.refl _ _).drew)) (by omega) (by omega) (by omega)).mono ?_; rintro e w4 ⟨rfl, hown4, hg4⟩))
  have hb4 : Below w.heap.size w w4 := (hb3.drew).grown hg4 (by simp; exact hb3.size) (fun k hk => by simp at hk; omega)
  clear hg4 hown3 hb3
  go_wp2_with fail
  go_ret
  refine ⟨_, _, _, rfl, ?_, ?_, hb4⟩
  · simp [pskSec, be_length]; omega
  · have hr := hown4.rd
    subst hl
    rw [psk_cells] at hr
    have hv : vs (List.replicate l.length 0) = List.replicate l.length (Value.int .u8 0) := by simp [vs]
    simp only [pskSec, vs_append, be2, hv]
    exact hr
theorem pskSecret_any (l : List UInt8) (h6 : (l.length : Int) ≤ 65000) (w : World) :
    Calls Try.prog 11 #[.string (S l)] w fun e w' => e = .returned (.string (S (pskSec l))) ∧ Below w.heap.size w w' := by
  go_enter Try.func11, Try.ntmps11
  go_wp2_with fail
  refine upon_conv_sb 9 26 5 Try.underlying9 Try.underlying26 Try.underlying5 l (by simp only [maxLen]; omega) ?_
  intro c w1 hown hb hsz
  go_wp2_with fail
  refine (preMaster_any _ _ c l rfl h6 w1 hown.rd).mono ?_
  rintro e w2 ⟨A', n', c', rfl, hn', hr, hb2⟩
  go_wp2_with fail
  refine upon_conv_bs 26 9 5 Try.underlying26 Try.underlying5 Try.underlying9 _ _ _ _ hn' hr ?_
  go_wp2_with fail
  go_ret
  exact ⟨rfl, hb.trans (hb2.mono (by omega))⟩
theorem conv_made (L : Nat) (h63 : L ≤ maxLen) (w1 w2 : World) (hb : Below (w1.alloc (.cells (madeCells #[.int .u8 0] L) 5)).heap.size (w1.alloc (.cells (madeCells #[.int .u8 0] L) 5)) w2) :
    (convert 26 9 (.slice (some ⟨w1.heap.size, 0, none⟩) L L)).run Try.prog w2 = .ok (.string (S (List.replicate L 0))) w2 := by
  have hown := own_made w1 5 (.int .u8 0) L L rfl (Nat.le_refl _) h63
  rw [Nat.mul_one] at hown
  have hr := (hown.keep hb).rd
  exact run_conv_bs w2 26 9 5 Try.underlying26 Try.underlying5 Try.underlying9 (List.replicate L 0) _ L L (by simp) (by simpa [vs] using hr)
theorem psk_eq (l : List UInt8) : S (be 2 l.length ++ List.replicate l.length 0 ++ be 2 l.length ++ l) = S (pskSec l) := by
  simp only [pskSec, List.append_assoc]
set_option maxHeartbeats 2000000 in
theorem law_in (l : List UInt8) (h1 : decide ((2147483647 : Int) < l.length) = false) (h2 : decide ((65000 : Int) < l.length) = false) (h6 : Hid ((l.length : Int) ≤ 65000)) (w : World) :
    Calls Try.prog 4 #[.string (S l)] w fun e w' => e = .returned (.bool true) ∧ Below w.heap.size w w' := by
  have h3 : (S l).size = l.length := S_size l
  have hw : IntKind.u64.wrap (l.length : Int) = (l.length : Int) := by have := h6.out; rw [IntKind.wrap_u64]; omega
  go_enter Try.func4, Try.ntmps4
  go_wp2_with fail
  refine (big_any 2 (by omega) l.length _).mono ?_
  rintro e w1 ⟨rfl, hb1⟩
  have hmk := fun w => run_make_any (P := Try.prog) w 26 5 (.int .u8 0) 1 1 Try.underlying26 u8info rfl .i64 .i64 l.length l.length l.length l.length rfl rfl (Nat.le_refl _) (by have := h6.out; omega) (by have := h6.out; simp only [maxLen]; omega)
  have hmax : Hid (l.length ≤ maxLen) := show l.length ≤ maxLen by have := h6.out; simp only [maxLen]; omega
  have hcv := fun w => conv_made l.length hmax.out w _ (Below.refl _ _)
  have hcv2 := fun w => conv_made l.length hmax.out w _ ((Below.refl _ _).drew)
  have ha1 := fun w => run_add_eq (P := Try.prog) (be 2 l.length) (List.replicate l.length 0) (be 2 l.length ++ List.replicate l.length 0) rfl (by have := h6.out; simp [be_length]; omega) w
  have ha2 := fun w => run_add_eq (P := Try.prog) (be 2 l.length ++ List.replicate l.length 0) (be 2 l.length) (be 2 l.length ++ (List.replicate l.length 0 ++ be 2 l.length)) (by simp) (by have := h6.out; simp [be_length]; omega) w
  have ha3 := fun w => run_add_eq (P := Try.prog) (be 2 l.length ++ (List.replicate l.length 0 ++ be 2 l.length)) l (pskSec l) (by simp [pskSec]) (by have := h6.out; simp [pskSec, be_length]; omega) w
  go_wp2_with fail
  go_region_with (first
    | (go_at_call 11; refine (pskSecret_any l h6.out _).mono ?_; rintro e w2 ⟨rfl, hb2⟩; first | (have hc2 := conv_made l.length hmax.out _ _ hb2) | (have hc2 := conv_made l.length hmax.out _ _ (below_undrew hb2)) | skip))
  all_goals
    go_wp2_with fail
    go_ret
    refine ⟨rfl, ?_⟩
    first
      | exact (below_two hb1 (below_undrew hb2)).alloc (by have := hb1.size; have := hb2.size; simp only [World.size_drew] at *; omega) _
      | exact below_two hb1 (below_two ((Below.refl _ _).alloc (Nat.le_refl _) _) hb2)
      | exact below_two hb1 (below_two (((Below.refl _ _).alloc (Nat.le_refl _) _).drew) hb2)
theorem law_out (l : List UInt8) (h1 : decide ((2147483647 : Int) < l.length) = true) (w : World) :
    Calls Try.prog 4 #[.string (S l)] w fun e w' => e = .returned (.bool true) ∧ Below w.heap.size w w' := by
  have h3 : (S l).size = l.length := S_size l
  go_enter Try.func4, Try.ntmps4
  go_wp2_with fail
  go_ret
  exact ⟨rfl, Below.refl _ _⟩
theorem law_big (l : List UInt8) (h1 : decide ((2147483647 : Int) < l.length) = false) (h2 : decide ((65000 : Int) < l.length) = true) (w : World) :
    Calls Try.prog 4 #[.string (S l)] w fun e w' => e = .returned (.bool true) ∧ Below w.heap.size w w' := by
  have h3 : (S l).size = l.length := S_size l
  go_enter Try.func4, Try.ntmps4
  go_wp2_with fail
  go_ret
  exact ⟨rfl, Below.refl _ _⟩
theorem psk_row (l : List UInt8) (w : World) :
    Calls Try.prog 4 #[.string (S l)] w fun e w' => e = .returned (.bool true) ∧ Below w.heap.size w w' := by
  by_cases h1 : (2147483647 : Int) < l.length
  · exact law_out l (decide_eq_true h1) w
  · by_cases h2 : (65000 : Int) < l.length
    · exact law_big l (decide_eq_false h1) (decide_eq_true h2) w
    · exact law_in l (decide_eq_false h1) (decide_eq_false h2) (show (l.length : Int) ≤ 65000 by omega) w
end Go.Proofs.Ytnjomlcenolkdaa
