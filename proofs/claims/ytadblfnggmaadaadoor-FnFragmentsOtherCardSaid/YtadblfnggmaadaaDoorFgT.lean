/- Walks: the reference's header of a handshake message. -/
import Derived.Test.YtadblfnggmaadaaDoorFgS
namespace Go.Proofs.YtadblfnggmaadaaDoor
open Go.RowKit Go.Cv
set_option maxRecDepth 100000
set_option linter.unusedVariables false
theorem hsH_be (a0 n1 n2 n3 n4 : Nat) : hsH a0 n1 n2 n3 n4 = [UInt8.ofNat a0] ++ be 3 n1 ++ be 2 n2 ++ be 3 n3 ++ be 3 n4 := by simp [hsH, be]
theorem u64_of (n : Nat) (h : n < 16777216) : IntKind.u64.wrap (n : Int) = (n : Int) := by rw [IntKind.wrap_u64]; omega
theorem under24 (n : Nat) (h : n < 16777216) : decide ((16777216 : Int) ≤ (n : Int)) = false := by simp; omega
theorem conv_one (a0 : Nat) (h : a0 < 256) (b : Nat) (W : World) (h0 : W.cell? ⟨b, 0, none⟩ = some (.int .u8 (a0 : Nat))) :
    (convert 65 9 (.slice (some ⟨b, 0, none⟩) 1 1)).run Tryd.prog W = .ok (.string (S [UInt8.ofNat a0])) W :=
  run_conv_bs W 65 9 5 Tryd.underlying65 Tryd.underlying5 Tryd.underlying9 [UInt8.ofNat a0] _ 1 1 rfl (.inr ⟨b, 0, rfl, fun j v hj => by
    match j with
    | 0 =>
      have e : (a0 : Int) % 256 = a0 := by omega
      simp [vs, e] at hj
      subst hj
      simpa using h0
    | j + 1 => simp [vs] at hj⟩)
set_option maxHeartbeats 2000000 in
theorem hsWrite (a0 n1 n2 n3 n4 : Nat) (ha : a0 < 256) (h1 : n1 < 16777216) (h2 : n2 < 65536) (h3 : n3 < 16777216) (h4 : n4 < 16777216) (w : World) :
    Calls Tryd.prog 23 #[.agg #[.int .u8 (a0 : Nat), .int .u32 (n1 : Nat), .int .u16 (n2 : Nat), .int .u32 (n3 : Nat), .int .u32 (n4 : Nat)]] w fun e w' => e = .returned (.tuple #[.string (S (hsH a0 n1 n2 n3 n4)), .bool true]) ∧ Below w.heap.size w w' := by
  have u1 := u64_of n1 h1
  have u2 := u64_of n2 (by omega)
  have u3 := u64_of n3 h3
  have u4 := u64_of n4 h4
  have g1 := under24 n1 h1
  have g3 := under24 n3 h3
  have g4 := under24 n4 h4
  obtain ⟨k0, e0⟩ : ∃ k : List UInt8, [UInt8.ofNat a0] = k := ⟨_, rfl⟩
  obtain ⟨k1, e1⟩ : ∃ k : List UInt8, be 3 n1 = k := ⟨_, rfl⟩
  obtain ⟨k2, e2⟩ : ∃ k : List UInt8, be 2 n2 = k := ⟨_, rfl⟩
  obtain ⟨k3, e3⟩ : ∃ k : List UInt8, be 3 n3 = k := ⟨_, rfl⟩
  obtain ⟨k4, e4⟩ : ∃ k : List UInt8, be 3 n4 = k := ⟨_, rfl⟩
  obtain ⟨q1, d1⟩ : ∃ k : List UInt8, k0 ++ k1 = k := ⟨_, rfl⟩
  obtain ⟨q2, d2⟩ : ∃ k : List UInt8, q1 ++ k2 = k := ⟨_, rfl⟩
  obtain ⟨q3, d3⟩ : ∃ k : List UInt8, q2 ++ k3 = k := ⟨_, rfl⟩
  obtain ⟨q4, d4⟩ : ∃ k : List UInt8, q3 ++ k4 = k := ⟨_, rfl⟩
  have hq : q4 = hsH a0 n1 n2 n3 n4 := by rw [hsH_be, ← d4, ← d3, ← d2, ← d1, ← e0, ← e1, ← e2, ← e3, ← e4]
  have l0 : k0.length = 1 := by rw [← e0]; rfl
  have l1 : k1.length = 3 := by rw [← e1]; exact be_length _ _
  have l2 : k2.length = 2 := by rw [← e2]; exact be_length _ _
  have l3 : k3.length = 3 := by rw [← e3]; exact be_length _ _
  have l4 : k4.length = 3 := by rw [← e4]; exact be_length _ _
  have m1 : q1.length = k0.length + k1.length := by rw [← d1, List.length_append]
  have m2 : q2.length = q1.length + k2.length := by rw [← d2, List.length_append]
  have m3 : q3.length = q2.length + k3.length := by rw [← d3, List.length_append]
  have m4 : q4.length = q3.length + k4.length := by rw [← d4, List.length_append]
  have ha1 := fun w => run_add_eq (P := Tryd.prog) k0 k1 q1 d1 (by omega) w
  have ha2 := fun w => run_add_eq (P := Tryd.prog) q1 k2 q2 d2 (by omega) w
  have ha3 := fun w => run_add_eq (P := Tryd.prog) q2 k3 q3 d3 (by omega) w
  have ha4 := fun w => run_add_eq (P := Tryd.prog) q3 k4 q4 d4 (by omega) w
  have H1 : Hid (∀ W, Calls Tryd.prog 30 #[.int .u64 (n1 : Int), .int .i64 3] W fun e w' => e = .returned (.string (S k1)) ∧ Below W.heap.size W w') := by
    intro W; rw [← e1]; exact recNum_any 3 (by omega) n1 W
  have H2 : Hid (∀ W, Calls Tryd.prog 30 #[.int .u64 (n2 : Int), .int .i64 2] W fun e w' => e = .returned (.string (S k2)) ∧ Below W.heap.size W w') := by
    intro W; rw [← e2]; exact recNum_any 2 (by omega) n2 W
  have H3 : Hid (∀ W, Calls Tryd.prog 30 #[.int .u64 (n3 : Int), .int .i64 3] W fun e w' => e = .returned (.string (S k3)) ∧ Below W.heap.size W w') := by
    intro W; rw [← e3]; exact recNum_any 3 (by omega) n3 W
  have H4 : Hid (∀ W, Calls Tryd.prog 30 #[.int .u64 (n4 : Int), .int .i64 3] W fun e w' => e = .returned (.string (S k4)) ∧ Below W.heap.size W w') := by
    intro W; rw [← e4]; exact recNum_any 3 (by omega) n4 W
  have HQ := Lib.hid hq
  have HBX : Hid (∀ w', Below (w.alloc (.cells #[.int .u8 (a0 : Nat), .int .u32 (n1 : Nat), .int .u16 (n2 : Nat), .int .u32 (n3 : Nat), .int .u32 (n4 : Nat)] 78)).heap.size (w.alloc (.cells #[.int .u8 (a0 : Nat), .int .u32 (n1 : Nat), .int .u16 (n2 : Nat), .int .u32 (n3 : Nat), .int .u32 (n4 : Nat)] 78)) w' → (fun w' => w'.cell? ⟨w.heap.size, 0, none⟩ = some (.int .u8 (a0 : Nat)) ∧ w'.cell? ⟨w.heap.size, 1, none⟩ = some (.int .u32 (n1 : Nat)) ∧ w'.cell? ⟨w.heap.size, 2, none⟩ = some (.int .u16 (n2 : Nat)) ∧ w'.cell? ⟨w.heap.size, 3, none⟩ = some (.int .u32 (n3 : Nat)) ∧ w'.cell? ⟨w.heap.size, 4, none⟩ = some (.int .u32 (n4 : Nat))) w') := by
    intro w' hb
    have h := (Blk.new w 78 #[.int .u8 (a0 : Nat), .int .u32 (n1 : Nat), .int .u16 (n2 : Nat), .int .u32 (n3 : Nat), .int .u32 (n4 : Nat)]).keep hb
    exact ⟨(h.cell 0).trans rfl, (h.cell 1).trans rfl, (h.cell 2).trans rfl, (h.cell 3).trans rfl, (h.cell 4).trans rfl⟩
  have HK0 : Hid (∀ (b : Nat) (W : World), W.cell? ⟨b, 0, none⟩ = some (.int .u8 (a0 : Nat)) → (convert 65 9 (.slice (some ⟨b, 0, none⟩) 1 1)).run Tryd.prog W = .ok (.string (S k0)) W) := by
    intro b W h0; rw [← e0]; exact conv_one a0 ha b W h0
  clear d1 d2 d3 d4 m1 m2 m3 m4 l0 l1 l2 l3 l4 e0 e1 e2 e3 e4 hq h1 h2 h3 h4 ha
  go_enter Tryd.func23, Tryd.ntmps23
  have x := HBX.out _ (Below.refl _ _)
  obtain ⟨c0, c1, c2, c3, c4⟩ := x
  go_upto_region 3 with (fail)
  clear g1 g3 g4 c0 c1 c2 c3 c4
  have hbW := below_alloc w (.cells #[.int .u8 (a0 : Nat), .int .u32 (n1 : Nat), .int .u16 (n2 : Nat), .int .u32 (n3 : Nat), .int .u32 (n4 : Nat)] 78)
  generalize w.alloc (.cells #[.int .u8 (a0 : Nat), .int .u32 (n1 : Nat), .int .u16 (n2 : Nat), .int .u32 (n3 : Nat), .int .u32 (n4 : Nat)] 78) = W at *
  have HCG : Hid (∀ (W' w' : World), Below (W'.alloc (.cells #[.int .u8 (a0 : Nat)] 5)).heap.size (W'.alloc (.cells #[.int .u8 (a0 : Nat)] 5)) w' → (convert 65 9 (.slice (some ⟨W'.heap.size, 0, none⟩) 1 1)).run Tryd.prog w' = .ok (.string (S k0)) w') := by
    intro W' w' hb
    have hB := (Blk.new W' 5 #[.int .u8 (a0 : Nat)]).keep hb
    exact HK0.out W'.heap.size w' ((hB.cell 0).trans rfl)
  have hcg : ∀ W' : World, (convert 65 9 (.slice (some ⟨W'.heap.size, 0, none⟩) 1 1)).run Tryd.prog (W'.alloc (.cells #[.int .u8 (a0 : Nat)] 5)) = .ok (.string (S k0)) (W'.alloc (.cells #[.int .u8 (a0 : Nat)] 5)) :=
    fun W' => HCG.out W' _ (Below.refl _ _)
  have HCV : Hid (∀ w' : World, Below (W.alloc (.cells #[.int .u8 (a0 : Nat)] 5)).heap.size (W.alloc (.cells #[.int .u8 (a0 : Nat)] 5)) w' → (convert 65 9 (.slice (some ⟨W.heap.size, 0, none⟩) 1 1)).run Tryd.prog w' = .ok (.string (S k0)) w') := HCG.out W
  have hcv := HCV.out ((W.alloc (.cells #[.int .u8 (a0 : Nat)] 5)).drew) (below_drew _)
  first
    | (go_region_held_law (fun w' => w'.cell? ⟨w.heap.size, 0, none⟩ = some (.int .u8 (a0 : Nat)) ∧ w'.cell? ⟨w.heap.size, 1, none⟩ = some (.int .u32 (n1 : Nat)) ∧ w'.cell? ⟨w.heap.size, 2, none⟩ = some (.int .u16 (n2 : Nat)) ∧ w'.cell? ⟨w.heap.size, 3, none⟩ = some (.int .u32 (n3 : Nat)) ∧ w'.cell? ⟨w.heap.size, 4, none⟩ = some (.int .u32 (n4 : Nat))) ((refine HBX.out _ ?_; (repeat (first | exact Below.refl _ _ | refine below_two ?_ hb1 | refine below_two ?_ hb2 | refine below_two ?_ hb3 | refine below_two ?_ hb4 | refine Below.drew ?_ | refine below_two ?_ (below_alloc _ _))); done)) (first
    | (go_at_call 30; with_reducible refine (H1.out _).mono ?_; rintro e v1 ⟨rfl, hb1⟩; (first | (have hy1 := HCG.out _ v1 hb1) | (have hx1 := HCV.out v1 (below_two (below_drew _) hb1)) | skip))
    | (go_at_call 30; with_reducible refine (H2.out _).mono ?_; rintro e v2 ⟨rfl, hb2⟩; (first | (have hy2 := HCG.out _ v2 hb2) | (have hy2 := HCG.out _ v2 (below_two hb1 hb2)) | (have hx2 := HCV.out v2 (below_two (below_two (below_drew _) hb1) hb2)) | skip))
    | (go_at_call 30; with_reducible refine (H3.out _).mono ?_; rintro e v3 ⟨rfl, hb3⟩; (first | (have hy3 := HCG.out _ v3 hb3) | (have hy3 := HCG.out _ v3 (below_two hb2 hb3)) | (have hy3 := HCG.out _ v3 (below_two (below_two hb1 hb2) hb3)) | (have hx3 := HCV.out v3 (below_two (below_two (below_two (below_drew _) hb1) hb2) hb3)) | skip))
    | (go_at_call 30; with_reducible refine (H4.out _).mono ?_; rintro e v4 ⟨rfl, hb4⟩; (first | (have hy4 := HCG.out _ v4 hb4) | (have hy4 := HCG.out _ v4 (below_two hb3 hb4)) | (have hy4 := HCG.out _ v4 (below_two (below_two hb2 hb3) hb4)) | (have hy4 := HCG.out _ v4 (below_two (below_two (below_two hb1 hb2) hb3) hb4)) | (have hx4 := HCV.out v4 (below_two (below_two (below_two (below_two (below_drew _) hb1) hb2) hb3) hb4)) | skip))))
    | fail "no"
  all_goals
    go_wp2_with fail
    first | go_ret2 | go_ret
    refine ⟨(by rw [← HQ.out]; first | done | rfl), ?_⟩
    refine below_two hbW ?_
    (repeat (first | exact Below.refl _ _ | refine below_two ?_ hb1 | refine below_two ?_ hb2 | refine below_two ?_ hb3 | refine below_two ?_ hb4 | refine Below.drew ?_ | refine below_two ?_ (below_alloc _ _)))
end Go.Proofs.YtadblfnggmaadaaDoor
