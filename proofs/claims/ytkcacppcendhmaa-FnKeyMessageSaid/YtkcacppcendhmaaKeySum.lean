/- Walks: the same message, written down by the statements' side. -/
import Derived.Test.YtkcacppcendhmaaKeyMsg
import Derived.Deep.RegionHeld3
namespace Go.Proofs.Ytkcacppcendhmaa
open Go.RowKit Go.Cv
set_option maxRecDepth 100000
set_option linter.unusedVariables false
theorem rd_cell (W : World) (h : Nat) (v : Value) (hc : W.cell? ⟨h, 0, none⟩ = some v) : Rd W (some ⟨h, 0, none⟩) [v] := by
  refine .inr ⟨_, _, rfl, ?_⟩
  intro j u hj
  cases j with
  | zero => simp at hj; subst hj; simpa using hc
  | succ j => simp at hj
theorem conv_row (k : List UInt8) (v : Value) (hv : vs k = [v]) (h : Nat) (W : World) (hc : W.cell? ⟨h, 0, none⟩ = some v) :
    (convert 31 9 (.slice (some ⟨h, 0, none⟩) 1 1)).run Try.prog W = .ok (.string (S k)) W :=
  run_conv_bs W 31 9 5 Try.underlying31 Try.underlying5 Try.underlying9 k _ 1 1 (by have := congrArg List.length hv; simpa [vs_length] using this) (by rw [hv]; exact rd_cell _ _ _ hc)
theorem cells_kept {w w' : World} (hb : Below w.heap.size w w') (b o : Nat) (h : b < w.heap.size) : w'.cell? ⟨b, o, none⟩ = w.cell? ⟨b, o, none⟩ := by
  unfold World.cell?
  rw [hb.block b h]
set_option maxHeartbeats 2000000 in
theorem keySum_any (l1 l2 l3 : List UInt8) (m : Nat) (hm : (m : Int) < 65536) (g1 : l1.length ≤ 2147483647) (g2 : l2.length ≤ 2147483647) (g3 : l3.length ≤ 255) (w : World) :
    Calls Try.prog 6 #[.string (S l1), .string (S l2), .string (S l3), .int .u16 m] w fun e w' => e = .returned (.string (S (keyText l1 l2 l3 m))) ∧ Below w.heap.size w w' := by
  have h3 : (S l3).size = l3.length := S_size l3
  have hw : IntKind.u8.wrap (l3.length : Int) = (l3.length : Int) := by rw [IntKind.wrap_u8]; omega
  have hwm : IntKind.i64.wrap (m : Int) = (m : Int) := by rw [IntKind.wrap_i64]; omega
  obtain ⟨k3, e3⟩ : ∃ k : List UInt8, [3] = k := ⟨_, rfl⟩
  obtain ⟨kb, eb⟩ : ∃ k : List UInt8, be 2 m = k := ⟨_, rfl⟩
  obtain ⟨kl, el⟩ : ∃ k : List UInt8, be 1 l3.length = k := ⟨_, rfl⟩
  obtain ⟨q1, d1⟩ : ∃ k : List UInt8, l1 ++ l2 = k := ⟨_, rfl⟩
  obtain ⟨q2, d2⟩ : ∃ k : List UInt8, q1 ++ k3 = k := ⟨_, rfl⟩
  obtain ⟨q3, d3⟩ : ∃ k : List UInt8, q2 ++ kb = k := ⟨_, rfl⟩
  obtain ⟨q4, d4⟩ : ∃ k : List UInt8, q3 ++ kl = k := ⟨_, rfl⟩
  obtain ⟨q5, d5⟩ : ∃ k : List UInt8, q4 ++ l3 = k := ⟨_, rfl⟩
  have hq : q5 = keyText l1 l2 l3 m := by
    rw [← d5, ← d4, ← d3, ← d2, ← d1, ← el, ← eb, ← e3]; simp [keyText, keyHead]
  have n3 : k3.length = 1 := by rw [← e3]; rfl
  have nb : kb.length = 2 := by rw [← eb]; exact be_length _ _
  have nl : kl.length = 1 := by rw [← el]; exact be_length _ _
  have m1 : q1.length = l1.length + l2.length := by rw [← d1, List.length_append]
  have m2 : q2.length = q1.length + k3.length := by rw [← d2, List.length_append]
  have m3 : q3.length = q2.length + kb.length := by rw [← d3, List.length_append]
  have m4 : q4.length = q3.length + kl.length := by rw [← d4, List.length_append]
  have m5 : q5.length = q4.length + l3.length := by rw [← d5, List.length_append]
  have ha1 := fun w => run_add_eq (P := Try.prog) l1 l2 q1 d1 (by omega) w
  have ha2 := fun w => run_add_eq (P := Try.prog) q1 k3 q2 d2 (by omega) w
  have ha3 := fun w => run_add_eq (P := Try.prog) q2 kb q3 d3 (by omega) w
  have ha4 := fun w => run_add_eq (P := Try.prog) q3 kl q4 d4 (by omega) w
  have ha5 := fun w => run_add_eq (P := Try.prog) q4 l3 q5 d5 (by omega) w
  have hc3 := conv_row k3 (.int .u8 3) (by rw [← e3]; rfl)
  have hcl := conv_row kl (.int .u8 (l3.length : Int)) (by rw [← el, be1, show (l3.length : Int) % 256 = l3.length by omega])
  have HC : Hid (∀ W, Calls Try.prog 11 #[.int .i64 m] W fun e w' => e = .returned (.string (S kb)) ∧ Below W.heap.size W w') := by
    intro W; rw [← eb]; exact keyTwo_any m hm W
  have HQ := Lib.hid hq
  have hA := fun (W : World) (o : Obj) (b i : Nat) (h : b < W.heap.size) => (below_alloc W o).cell (p := ⟨b, i, none⟩) h
  clear d1 d2 d3 d4 d5 m1 m2 m3 m4 m5 n3 nb nl e3 eb el hq hm g1 g2 g3
  go_enter Try.func6, Try.ntmps6
  go_wp2_with fail
  go_region_with (first
    | (go_at_call 11; refine (HC.out _).mono ?_; rintro e w2 ⟨rfl, hb2⟩; have hk2 := cells_kept hb2; have hz2 := hb2.size; simp only [World.size_alloc, World.size_drew] at hz2; (try have z0 : w.heap.size < w2.heap.size := by omega); (try have z1 : w.heap.size + 1 < w2.heap.size := by omega); (try have y0 : ¬ w2.heap.size = w.heap.size := by omega); (try have y1 : ¬ w2.heap.size = w.heap.size + 1 := by omega); (first | have k0 : w2.cell? ⟨w.heap.size, 0, none⟩ = some (.int .u8 3) := by rw [hk2 _ _ (by first | (simp; done) | (simp; omega))]; simp | have k0 : w2.cell? ⟨w.heap.size, 0, none⟩ = some (.int .u8 l3.length) := by rw [hk2 _ _ (by first | (simp; done) | (simp; omega))]; simp | skip); (first | have k1 : w2.cell? ⟨w.heap.size + 1, 0, none⟩ = some (.int .u8 3) := by rw [hk2 _ _ (by first | (simp; done) | (simp; omega))]; simp | have k1 : w2.cell? ⟨w.heap.size + 1, 0, none⟩ = some (.int .u8 l3.length) := by rw [hk2 _ _ (by first | (simp; done) | (simp; omega))]; simp | skip); clear hk2 hz2))
  all_goals
    go_wp2_with fail
    go_ret
    refine ⟨(by rw [← HQ.out]; first | done | rfl), ?_⟩
    repeat refine Below.alloc ?_ (by have := hb2.size; simp only [World.size_alloc, World.size_drew] at *; omega) _
    refine below_two ?_ hb2
    (repeat (first | assumption | exact Below.refl _ _ | refine Below.drew ?_ | refine Below.setCell ?_ (by first | omega | (simp; done) | (simp; omega)) _ | refine Below.alloc ?_ (by first | omega | (simp; done) | (simp; omega)) _))
end Go.Proofs.Ytkcacppcendhmaa
