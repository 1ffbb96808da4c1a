/- Walks: the additional data of a record without a connection ID, in the specification. -/
import Derived.Test.YtpedkkmoplbdhaaDoorAcidSum
import Derived.Test.YtpedkkmoplbdhaaDoorAfS
namespace Go.Proofs.YtpedkkmoplbdhaaDoor
open Go.RowKit Go.Cv
set_option maxRecDepth 100000
set_option linter.unusedVariables false
theorem sAeNonce (iv x : List UInt8) (hiv : iv.length = 4) (hx : x.length ≤ 1000) (w : World) : Calls Tryd.prog 42 #[.string (S iv), .string (S x)] w fun e w' => e = .returned (.string (S (iv ++ x))) ∧ w = w' := by
  have hz : (S iv).size = 4 := by rw [S_size, hiv]
  have hex : (S iv).extract 0 4 = S iv := by rw [S_extract, List.drop_zero, List.take_of_length_le (by rw [hiv]; exact Nat.le_refl _)]
  obtain ⟨q, hq⟩ : ∃ q, iv ++ x = q := ⟨_, rfl⟩
  have ha := fun w => run_add_eq (P := Tryd.prog) iv x q hq (by rw [← hq, List.length_append]; omega) w
  rw [hq]
  clear hiv hx hq
  go_enter Tryd.func42, Tryd.ntmps42
  go_wp2_with fail
  go_ret
  exact ⟨rfl, rfl⟩
theorem rd_three (W : World) (h : Nat) (v0 v1 v2 : Value) (h0 : W.cell? ⟨h, 0, none⟩ = some v0) (h1 : W.cell? ⟨h, 1, none⟩ = some v1) (h2 : W.cell? ⟨h, 2, none⟩ = some v2) :
    Rd W (some ⟨h, 0, none⟩) [v0, v1, v2] := by
  refine .inr ⟨_, _, rfl, ?_⟩
  intro j u hj
  match j with
  | 0 => simp at hj; subst hj; simpa using h0
  | 1 => simp at hj; subst hj; simpa using h1
  | 2 => simp at hj; subst hj; simpa using h2
  | j + 3 => simp at hj
theorem conv_three (k : List UInt8) (v0 v1 v2 : Value) (hv : vs k = [v0, v1, v2]) (h : Nat) (W : World) (hb : Blk W h 5 #[v0, v1, v2]) :
    (convert 51 9 (.slice (some ⟨h, 0, none⟩) 3 3)).run Tryd.prog W = .ok (.string (S k)) W :=
  run_conv_bs W 51 9 5 Tryd.underlying51 Tryd.underlying5 Tryd.underlying9 k _ 3 3 (by have := congrArg List.length hv; simpa [vs_length] using this) (by rw [hv]; exact rd_three W h v0 v1 v2 ((hb.cell 0).trans rfl) ((hb.cell 1).trans rfl) ((hb.cell 2).trans rfl))
def addS (ct maj mn ep sq m : Nat) : List UInt8 := be 2 ep ++ be 6 sq ++ (be 1 ct ++ be 1 maj ++ be 1 mn) ++ be 2 m
set_option maxHeartbeats 4000000 in
theorem sAdd (ct maj mn ep sq cl : Nat) (cid : List UInt8) (m : Nat) (hct : (ct : Int) < 256) (hmaj : (maj : Int) < 256) (hmn : (mn : Int) < 256) (hep : (ep : Int) < 65536) (hm : (m : Int) < 65536) (w : World) :
    Calls Tryd.prog 62 #[.agg (recRow ct maj mn ep sq cl cid), .int .i64 m] w fun e w' => e = .returned (.string (S (addS ct maj mn ep sq m))) ∧ Below w.heap.size w w' := by
  obtain ⟨k3, e3⟩ : ∃ k : List UInt8, be 1 ct ++ be 1 maj ++ be 1 mn = k := ⟨_, rfl⟩
  obtain ⟨ks, es⟩ : ∃ k : List UInt8, be 2 ep ++ be 6 sq = k := ⟨_, rfl⟩
  obtain ⟨kb, eb⟩ : ∃ k : List UInt8, be 2 m = k := ⟨_, rfl⟩
  obtain ⟨q1, d1⟩ : ∃ k : List UInt8, ks ++ k3 = k := ⟨_, rfl⟩
  obtain ⟨q2, d2⟩ : ∃ k : List UInt8, q1 ++ kb = k := ⟨_, rfl⟩
  have hq : q2 = addS ct maj mn ep sq m := by rw [← d2, ← d1, ← es, ← eb, ← e3]; rfl
  have n3 : k3.length = 3 := by rw [← e3]; simp [be_length]
  have ns : ks.length = 8 := by rw [← es]; simp [be_length]
  have nb : kb.length = 2 := by rw [← eb]; exact be_length _ _
  have m1 : q1.length = ks.length + k3.length := by rw [← d1, List.length_append]
  have m2 : q2.length = q1.length + kb.length := by rw [← d2, List.length_append]
  have ha1 := fun w => run_add_eq (P := Tryd.prog) ks k3 q1 d1 (by omega) w
  have ha2 := fun w => run_add_eq (P := Tryd.prog) q1 kb q2 d2 (by omega) w
  have HV : Hid (vs k3 = [.int .u8 (ct : Int), .int .u8 (maj : Int), .int .u8 (mn : Int)]) := by
    show vs k3 = _
    rw [← e3]; simp [be, vs]; omega
  have HC : Hid (∀ W, Calls Tryd.prog 90 #[.int .i64 m] W fun e w' => e = .returned (.string (S kb)) ∧ Below W.heap.size W w') := by
    intro W; rw [← eb]; exact keyTwo_any m hm W
  have HD : Hid (∀ W, Calls Tryd.prog 60 #[.agg #[.int .u8 (ct : Int), .int .u8 (maj : Int), .int .u8 (mn : Int), .int .u16 (ep : Int), .int .u64 (sq : Int), .int .u16 (cl : Int), .string (S cid)]] W fun e w' => e = .returned (.string (S ks)) ∧ Below W.heap.size W w') := by
    intro W; rw [← es]; exact suiteSeq_any ct maj mn ep sq cl cid hep W
  have HQ := Lib.hid hq
  have HBX : Hid (∀ w', Below (w.alloc (.cells (recRow ct maj mn ep sq cl cid) 25)).heap.size (w.alloc (.cells (recRow ct maj mn ep sq cl cid) 25)) w' → recCells w' w.heap.size ct maj mn ep sq cl cid) := by
    intro w' hb
    exact recCells_of ((Blk.new w 25 (recRow ct maj mn ep sq cl cid)).keep hb)
  clear d1 d2 m1 m2 n3 ns nb e3 eb es hq hm hct hmaj hmn hep
  unfold recRow recCells at *
  go_enter Tryd.func62, Tryd.ntmps62
  go_wp2_with fail
  have hbW := below_alloc w (.cells #[.int .u8 (ct : Int), .int .u8 (maj : Int), .int .u8 (mn : Int), .int .u16 (ep : Int), .int .u64 (sq : Int), .int .u16 (cl : Int), .string (S cid)] 25)
  generalize w.alloc (.cells #[.int .u8 (ct : Int), .int .u8 (maj : Int), .int .u8 (mn : Int), .int .u16 (ep : Int), .int .u64 (sq : Int), .int .u16 (cl : Int), .string (S cid)] 25) = W at *
  have HCG : Hid (∀ (W' w' : World), Below (W'.alloc (.cells #[.int .u8 (ct : Int), .int .u8 (maj : Int), .int .u8 (mn : Int)] 5)).heap.size (W'.alloc (.cells #[.int .u8 (ct : Int), .int .u8 (maj : Int), .int .u8 (mn : Int)] 5)) w' → (convert 51 9 (.slice (some ⟨W'.heap.size, 0, none⟩) 3 3)).run Tryd.prog w' = .ok (.string (S k3)) w') := by
    intro W' w' hb
    exact conv_three k3 _ _ _ HV.out W'.heap.size w' ((Blk.new W' 5 #[.int .u8 (ct : Int), .int .u8 (maj : Int), .int .u8 (mn : Int)]).keep hb)
  have hcg : ∀ W' : World, (convert 51 9 (.slice (some ⟨W'.heap.size, 0, none⟩) 3 3)).run Tryd.prog (W'.alloc (.cells #[.int .u8 (ct : Int), .int .u8 (maj : Int), .int .u8 (mn : Int)] 5)) = .ok (.string (S k3)) (W'.alloc (.cells #[.int .u8 (ct : Int), .int .u8 (maj : Int), .int .u8 (mn : Int)] 5)) := fun W' => HCG.out W' _ (Below.refl _ _)
  have hcv : (convert 51 9 (.slice (some ⟨W.heap.size, 0, none⟩) 3 3)).run Tryd.prog ((W.alloc (.cells #[.int .u8 (ct : Int), .int .u8 (maj : Int), .int .u8 (mn : Int)] 5)).drew) = .ok (.string (S k3)) ((W.alloc (.cells #[.int .u8 (ct : Int), .int .u8 (maj : Int), .int .u8 (mn : Int)] 5)).drew) := HCG.out W _ (below_drew _)
  have HCV : Hid (∀ w', Below (W.alloc (.cells #[.int .u8 (ct : Int), .int .u8 (maj : Int), .int .u8 (mn : Int)] 5)).heap.size (W.alloc (.cells #[.int .u8 (ct : Int), .int .u8 (maj : Int), .int .u8 (mn : Int)] 5)) w' → (convert 51 9 (.slice (some ⟨W.heap.size, 0, none⟩) 3 3)).run Tryd.prog w' = .ok (.string (S k3)) w') := fun w' hb => HCG.out W w' hb
  first
    | (go_region_held_law (fun w' => w'.cell? ⟨w.heap.size, 0, none⟩ = some (.int .u8 (ct : Int)) ∧ w'.cell? ⟨w.heap.size, 1, none⟩ = some (.int .u8 (maj : Int)) ∧ w'.cell? ⟨w.heap.size, 2, none⟩ = some (.int .u8 (mn : Int)) ∧ w'.cell? ⟨w.heap.size, 3, none⟩ = some (.int .u16 (ep : Int)) ∧ w'.cell? ⟨w.heap.size, 4, none⟩ = some (.int .u64 (sq : Int)) ∧ w'.cell? ⟨w.heap.size, 5, none⟩ = some (.int .u16 (cl : Int)) ∧ w'.cell? ⟨w.heap.size, 6, none⟩ = some (.string (S cid))) ((refine HBX.out _ ?_; (repeat (first | exact Below.refl _ _ | refine below_two ?_ hb2 | refine below_two ?_ hb6 | refine Below.drew ?_ | refine below_two ?_ (below_alloc _ _))); done)) (first
    | (go_at_call 60; with_reducible refine (HD.out _).mono ?_; rintro e w2 ⟨rfl, hb2⟩; (first | (have hy2 := HCG.out _ w2 hb2) | (have hx2 := HCV.out w2 (below_two (below_drew _) hb2)) | (have hx2 := HCV.out w2 (below_two (below_two (below_drew _) hb6) hb2)) | skip))
    | (go_at_call 90; with_reducible refine (HC.out _).mono ?_; rintro e w6 ⟨rfl, hb6⟩; (first | (have hy6 := HCG.out _ w6 hb6) | (have hx6 := HCV.out w6 (below_two (below_drew _) hb6)) | (have hx6 := HCV.out w6 (below_two (below_two (below_drew _) hb2) hb6)) | skip))))
    | fail "no"
  all_goals
    go_wp2_with fail
    go_ret
    refine ⟨(by rw [← HQ.out]; first | done | rfl), ?_⟩
    refine below_two hbW ?_
    (repeat (first | exact Below.refl _ _ | refine below_two ?_ hb2 | refine below_two ?_ hb6 | refine Below.drew ?_ | refine below_two ?_ (below_alloc _ _)))
end Go.Proofs.YtpedkkmoplbdhaaDoor
