/- Walks: the additional data of a record with a connection ID, written down by the statements' side. -/
import Derived.Test.YtpedkkmoplbdhaaDoorAcidSeq
import Derived.Deep.RegionHeldLaw
namespace Go.Proofs.YtpedkkmoplbdhaaDoor
open Go.RowKit Go.Cv
set_option maxRecDepth 100000
set_option linter.unusedVariables false
theorem rd_five (W : World) (h : Nat) (v0 v1 v2 v3 v4 : Value) (h0 : W.cell? ⟨h, 0, none⟩ = some v0) (h1 : W.cell? ⟨h, 1, none⟩ = some v1) (h2 : W.cell? ⟨h, 2, none⟩ = some v2) (h3 : W.cell? ⟨h, 3, none⟩ = some v3) (h4 : W.cell? ⟨h, 4, none⟩ = some v4) :
    Rd W (some ⟨h, 0, none⟩) [v0, v1, v2, v3, v4] := by
  refine .inr ⟨_, _, rfl, ?_⟩
  intro j u hj
  match j with
  | 0 => simp at hj; subst hj; simpa using h0
  | 1 => simp at hj; subst hj; simpa using h1
  | 2 => simp at hj; subst hj; simpa using h2
  | 3 => simp at hj; subst hj; simpa using h3
  | 4 => simp at hj; subst hj; simpa using h4
  | j + 5 => simp at hj
theorem conv_five (k : List UInt8) (v0 v1 v2 v3 v4 : Value) (hv : vs k = [v0, v1, v2, v3, v4]) (h : Nat) (W : World) (h0 : W.cell? ⟨h, 0, none⟩ = some v0) (h1 : W.cell? ⟨h, 1, none⟩ = some v1) (h2 : W.cell? ⟨h, 2, none⟩ = some v2) (h3 : W.cell? ⟨h, 3, none⟩ = some v3) (h4 : W.cell? ⟨h, 4, none⟩ = some v4) :
    (convert 51 9 (.slice (some ⟨h, 0, none⟩) 5 5)).run Tryd.prog W = .ok (.string (S k)) W :=
  run_conv_bs W 51 9 5 Tryd.underlying51 Tryd.underlying5 Tryd.underlying9 k _ 5 5 (by have := congrArg List.length hv; simpa [vs_length] using this) (by rw [hv]; exact rd_five _ _ _ _ _ _ _ h0 h1 h2 h3 h4)
theorem five_vs (n maj mn : Nat) (hn : n ≤ 255) (hmaj : (maj : Int) < 256) (hmn : (mn : Int) < 256) : vs (be 1 25 ++ be 1 n ++ be 1 25 ++ be 1 maj ++ be 1 mn) = [.int .u8 25, .int .u8 (n : Int), .int .u8 25, .int .u8 (maj : Int), .int .u8 (mn : Int)] := by
  have a : (n : Int) % 256 = n := by omega
  have b : (maj : Int) % 256 = maj := by omega
  have c : (mn : Int) % 256 = mn := by omega
  simp only [vs_append, be1, a, b, c]
  rfl
def recCells (w' : World) (b : Nat) (ct maj mn ep sq cl : Nat) (cid : List UInt8) : Prop :=
  w'.cell? ⟨b, 0, none⟩ = some (.int .u8 (ct : Int)) ∧ w'.cell? ⟨b, 1, none⟩ = some (.int .u8 (maj : Int)) ∧ w'.cell? ⟨b, 2, none⟩ = some (.int .u8 (mn : Int)) ∧ w'.cell? ⟨b, 3, none⟩ = some (.int .u16 (ep : Int)) ∧ w'.cell? ⟨b, 4, none⟩ = some (.int .u64 (sq : Int)) ∧ w'.cell? ⟨b, 5, none⟩ = some (.int .u16 (cl : Int)) ∧ w'.cell? ⟨b, 6, none⟩ = some (.string (S cid))
theorem recCells_of {w : World} {b : Nat} {t : TypeId} {ct maj mn ep sq cl : Nat} {cid : List UInt8} (h : Blk w b t (recRow ct maj mn ep sq cl cid)) : recCells w b ct maj mn ep sq cl cid :=
  ⟨(h.cell 0).trans rfl, (h.cell 1).trans rfl, (h.cell 2).trans rfl, (h.cell 3).trans rfl, (h.cell 4).trans rfl, (h.cell 5).trans rfl, (h.cell 6).trans rfl⟩
set_option maxHeartbeats 2000000 in
theorem acidSum_any (ct maj mn ep sq cl : Nat) (cid : List UInt8) (m : Nat) (hn : cid.length ≤ 255) (hmaj : (maj : Int) < 256) (hmn : (mn : Int) < 256) (hep : (ep : Int) < 65536) (hm : (m : Int) < 65536) (w : World) :
    Calls Tryd.prog 61 #[.agg (recRow ct maj mn ep sq cl cid), .int .i64 m] w fun e w' => e = .returned (.string (S (acid maj mn ep sq cid m))) ∧ Below w.heap.size w w' := by
  have h3 : (S cid).size = cid.length := S_size cid
  have hw : IntKind.u8.wrap (cid.length : Int) = (cid.length : Int) := by rw [IntKind.wrap_u8]; omega
  obtain ⟨k5, e5⟩ : ∃ k : List UInt8, be 1 25 ++ be 1 cid.length ++ be 1 25 ++ be 1 maj ++ be 1 mn = k := ⟨_, rfl⟩
  obtain ⟨ks, es⟩ : ∃ k : List UInt8, be 2 ep ++ be 6 sq = k := ⟨_, rfl⟩
  obtain ⟨kb, eb⟩ : ∃ k : List UInt8, be 2 m = k := ⟨_, rfl⟩
  obtain ⟨q1, d1⟩ : ∃ k : List UInt8, [255, 255, 255, 255, 255, 255, 255, 255] ++ k5 = k := ⟨_, rfl⟩
  obtain ⟨q2, d2⟩ : ∃ k : List UInt8, q1 ++ ks = k := ⟨_, rfl⟩
  obtain ⟨q3, d3⟩ : ∃ k : List UInt8, q2 ++ cid = k := ⟨_, rfl⟩
  obtain ⟨q4, d4⟩ : ∃ k : List UInt8, q3 ++ kb = k := ⟨_, rfl⟩
  have hq : q4 = acid maj mn ep sq cid m := by
    rw [← d4, ← d3, ← d2, ← d1, ← es, ← eb, ← e5]; simp [acid, List.replicate]
  have n5 : k5.length = 5 := by rw [← e5]; simp [be_length]
  have ns : ks.length = 8 := by rw [← es]; simp [be_length]
  have nb : kb.length = 2 := by rw [← eb]; exact be_length _ _
  have m1 : q1.length = 8 + k5.length := by rw [← d1, List.length_append]; rfl
  have m2 : q2.length = q1.length + ks.length := by rw [← d2, List.length_append]
  have m3 : q3.length = q2.length + cid.length := by rw [← d3, List.length_append]
  have m4 : q4.length = q3.length + kb.length := by rw [← d4, List.length_append]
  have ha1 : ∀ w, (Op.stringOp .add (ByteArray.mk #[255, 255, 255, 255, 255, 255, 255, 255]) (S k5)).run Tryd.prog w = .ok (.string (S q1)) w := fun w => run_add_eq (P := Tryd.prog) [255, 255, 255, 255, 255, 255, 255, 255] k5 q1 d1 (by omega) w
  have ha2 := fun w => run_add_eq (P := Tryd.prog) q1 ks q2 d2 (by omega) w
  have ha3 := fun w => run_add_eq (P := Tryd.prog) q2 cid q3 d3 (by omega) w
  have ha4 := fun w => run_add_eq (P := Tryd.prog) q3 kb q4 d4 (by omega) w
  have HV : Hid (vs k5 = [.int .u8 25, .int .u8 (cid.length : Int), .int .u8 25, .int .u8 (maj : Int), .int .u8 (mn : Int)]) := by
    show vs k5 = _
    rw [← e5]; exact five_vs cid.length maj mn hn hmaj hmn
  have HC : Hid (∀ W, Calls Tryd.prog 90 #[.int .i64 m] W fun e w' => e = .returned (.string (S kb)) ∧ Below W.heap.size W w') := by
    intro W; rw [← eb]; exact keyTwo_any m hm W
  have HD : Hid (∀ W, Calls Tryd.prog 60 #[.agg #[.int .u8 (ct : Int), .int .u8 (maj : Int), .int .u8 (mn : Int), .int .u16 (ep : Int), .int .u64 (sq : Int), .int .u16 (cl : Int), .string (S cid)]] W fun e w' => e = .returned (.string (S ks)) ∧ Below W.heap.size W w') := by
    intro W; rw [← es]; exact suiteSeq_any ct maj mn ep sq cl cid hep W
  have HQ := Lib.hid hq
  have HBX : Hid (∀ w', Below (w.alloc (.cells (recRow ct maj mn ep sq cl cid) 25)).heap.size (w.alloc (.cells (recRow ct maj mn ep sq cl cid) 25)) w' → recCells w' w.heap.size ct maj mn ep sq cl cid) := by
    intro w' hb
    exact recCells_of ((Blk.new w 25 (recRow ct maj mn ep sq cl cid)).keep hb)
  clear d1 d2 d3 d4 m1 m2 m3 m4 n5 ns nb e5 eb es hq hm hn hmaj hmn hep
  unfold recRow recCells at *
  go_enter Tryd.func61, Tryd.ntmps61
  go_wp2_with fail
  have hbW := below_alloc w (.cells #[.int .u8 (ct : Int), .int .u8 (maj : Int), .int .u8 (mn : Int), .int .u16 (ep : Int), .int .u64 (sq : Int), .int .u16 (cl : Int), .string (S cid)] 25)
  generalize w.alloc (.cells #[.int .u8 (ct : Int), .int .u8 (maj : Int), .int .u8 (mn : Int), .int .u16 (ep : Int), .int .u64 (sq : Int), .int .u16 (cl : Int), .string (S cid)] 25) = W at *
  have hcv : (convert 51 9 (.slice (some ⟨W.heap.size, 0, none⟩) 5 5)).run Tryd.prog ((W.alloc (.cells #[.int .u8 25, .int .u8 (cid.length : Int), .int .u8 25, .int .u8 (maj : Int), .int .u8 (mn : Int)] 5)).drew) = .ok (.string (S k5)) ((W.alloc (.cells #[.int .u8 25, .int .u8 (cid.length : Int), .int .u8 25, .int .u8 (maj : Int), .int .u8 (mn : Int)] 5)).drew) :=
    conv_five k5 _ _ _ _ _ HV.out W.heap.size ((W.alloc (.cells #[.int .u8 25, .int .u8 (cid.length : Int), .int .u8 25, .int .u8 (maj : Int), .int .u8 (mn : Int)] 5)).drew) (((Blk.new W 5 #[.int .u8 25, .int .u8 (cid.length : Int), .int .u8 25, .int .u8 (maj : Int), .int .u8 (mn : Int)]).drew.cell 0).trans rfl) (((Blk.new W 5 #[.int .u8 25, .int .u8 (cid.length : Int), .int .u8 25, .int .u8 (maj : Int), .int .u8 (mn : Int)]).drew.cell 1).trans rfl) (((Blk.new W 5 #[.int .u8 25, .int .u8 (cid.length : Int), .int .u8 25, .int .u8 (maj : Int), .int .u8 (mn : Int)]).drew.cell 2).trans rfl) (((Blk.new W 5 #[.int .u8 25, .int .u8 (cid.length : Int), .int .u8 25, .int .u8 (maj : Int), .int .u8 (mn : Int)]).drew.cell 3).trans rfl) (((Blk.new W 5 #[.int .u8 25, .int .u8 (cid.length : Int), .int .u8 25, .int .u8 (maj : Int), .int .u8 (mn : Int)]).drew.cell 4).trans rfl)
  have HCV : Hid (∀ w', Below (W.alloc (.cells #[.int .u8 25, .int .u8 (cid.length : Int), .int .u8 25, .int .u8 (maj : Int), .int .u8 (mn : Int)] 5)).heap.size (W.alloc (.cells #[.int .u8 25, .int .u8 (cid.length : Int), .int .u8 25, .int .u8 (maj : Int), .int .u8 (mn : Int)] 5)) w' → (convert 51 9 (.slice (some ⟨W.heap.size, 0, none⟩) 5 5)).run Tryd.prog w' = .ok (.string (S k5)) w') := by
    intro w' hb
    exact conv_five k5 _ _ _ _ _ HV.out W.heap.size w' ((((Blk.new W 5 #[.int .u8 25, .int .u8 (cid.length : Int), .int .u8 25, .int .u8 (maj : Int), .int .u8 (mn : Int)]).keep hb).cell 0).trans rfl) ((((Blk.new W 5 #[.int .u8 25, .int .u8 (cid.length : Int), .int .u8 25, .int .u8 (maj : Int), .int .u8 (mn : Int)]).keep hb).cell 1).trans rfl) ((((Blk.new W 5 #[.int .u8 25, .int .u8 (cid.length : Int), .int .u8 25, .int .u8 (maj : Int), .int .u8 (mn : Int)]).keep hb).cell 2).trans rfl) ((((Blk.new W 5 #[.int .u8 25, .int .u8 (cid.length : Int), .int .u8 25, .int .u8 (maj : Int), .int .u8 (mn : Int)]).keep hb).cell 3).trans rfl) ((((Blk.new W 5 #[.int .u8 25, .int .u8 (cid.length : Int), .int .u8 25, .int .u8 (maj : Int), .int .u8 (mn : Int)]).keep hb).cell 4).trans rfl)
  have HCG : Hid (∀ (W' w' : World), Below (W'.alloc (.cells #[.int .u8 25, .int .u8 (cid.length : Int), .int .u8 25, .int .u8 (maj : Int), .int .u8 (mn : Int)] 5)).heap.size (W'.alloc (.cells #[.int .u8 25, .int .u8 (cid.length : Int), .int .u8 25, .int .u8 (maj : Int), .int .u8 (mn : Int)] 5)) w' → (convert 51 9 (.slice (some ⟨W'.heap.size, 0, none⟩) 5 5)).run Tryd.prog w' = .ok (.string (S k5)) w') := by
    intro W' w' hb
    exact conv_five k5 _ _ _ _ _ HV.out W'.heap.size w' ((((Blk.new W' 5 #[.int .u8 25, .int .u8 (cid.length : Int), .int .u8 25, .int .u8 (maj : Int), .int .u8 (mn : Int)]).keep hb).cell 0).trans rfl) ((((Blk.new W' 5 #[.int .u8 25, .int .u8 (cid.length : Int), .int .u8 25, .int .u8 (maj : Int), .int .u8 (mn : Int)]).keep hb).cell 1).trans rfl) ((((Blk.new W' 5 #[.int .u8 25, .int .u8 (cid.length : Int), .int .u8 25, .int .u8 (maj : Int), .int .u8 (mn : Int)]).keep hb).cell 2).trans rfl) ((((Blk.new W' 5 #[.int .u8 25, .int .u8 (cid.length : Int), .int .u8 25, .int .u8 (maj : Int), .int .u8 (mn : Int)]).keep hb).cell 3).trans rfl) ((((Blk.new W' 5 #[.int .u8 25, .int .u8 (cid.length : Int), .int .u8 25, .int .u8 (maj : Int), .int .u8 (mn : Int)]).keep hb).cell 4).trans rfl)
  have hcg : ∀ W' : World, (convert 51 9 (.slice (some ⟨W'.heap.size, 0, none⟩) 5 5)).run Tryd.prog (W'.alloc (.cells #[.int .u8 25, .int .u8 (cid.length : Int), .int .u8 25, .int .u8 (maj : Int), .int .u8 (mn : Int)] 5)) = .ok (.string (S k5)) (W'.alloc (.cells #[.int .u8 25, .int .u8 (cid.length : Int), .int .u8 25, .int .u8 (maj : Int), .int .u8 (mn : Int)] 5)) :=
    fun W' => HCG.out W' _ (Below.refl _ _)
  first
    | (go_region_held_law (fun w' => w'.cell? ⟨w.heap.size, 0, none⟩ = some (.int .u8 (ct : Int)) ∧ w'.cell? ⟨w.heap.size, 1, none⟩ = some (.int .u8 (maj : Int)) ∧ w'.cell? ⟨w.heap.size, 2, none⟩ = some (.int .u8 (mn : Int)) ∧ w'.cell? ⟨w.heap.size, 3, none⟩ = some (.int .u16 (ep : Int)) ∧ w'.cell? ⟨w.heap.size, 4, none⟩ = some (.int .u64 (sq : Int)) ∧ w'.cell? ⟨w.heap.size, 5, none⟩ = some (.int .u16 (cl : Int)) ∧ w'.cell? ⟨w.heap.size, 6, none⟩ = some (.string (S cid))) ((refine HBX.out _ ?_; (repeat (first | exact Below.refl _ _ | refine below_two ?_ hb2 | refine below_two ?_ hb6 | refine Below.drew ?_ | refine below_two ?_ (below_alloc _ _))); done)) (first
    | (go_at_call 60; with_reducible refine (HD.out _).mono ?_; rintro e w2 ⟨rfl, hb2⟩; (first | (have hy2 := HCG.out _ w2 hb2) | (have hx2 := HCV.out w2 (below_two (below_drew _) hb2)) | (have hx2 := HCV.out w2 (below_two (below_two (below_drew _) hb6) hb2)) | skip))
    | (go_at_call 90; with_reducible refine (HC.out _).mono ?_; rintro e w6 ⟨rfl, hb6⟩; (first | (have hy6 := HCG.out _ w6 hb6) | (have hx6 := HCV.out w6 (below_two (below_drew _) hb6)) | (have hx6 := HCV.out w6 (below_two (below_two (below_drew _) hb2) hb6)) | skip))))
    | fail "no"
  all_goals
    go_wp2_with fail
    go_ret
    refine ⟨(by rw [← HQ.out]; first | done | rfl), ?_⟩
    refine below_two hbW ?_
    (repeat (first | exact Below.refl _ _ | refine below_two ?_ hb2 | refine below_two ?_ hb6 | refine Below.drew ?_ | refine below_two ?_ (below_alloc _ _)))
end Go.Proofs.YtpedkkmoplbdhaaDoor
