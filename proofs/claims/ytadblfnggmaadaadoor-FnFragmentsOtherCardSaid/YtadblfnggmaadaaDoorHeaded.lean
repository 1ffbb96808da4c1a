/- Walks: the laws' own header of a record, and a whole record. -/
import Derived.Test.YtadblfnggmaadaaDoorBig
import Derived.Test.YtadblfnggmaadaaDoorBase
import Derived.Deep.RegionHeldLaw
import Derived.Laws.BitsAllLaws
namespace Go.Proofs.YtadblfnggmaadaaDoor
open Go.RowKit Go.Cv
set_option maxRecDepth 100000
set_option linter.unusedVariables false
theorem hd_three (W : World) (h : Nat) (v0 v1 v2 : Value) (h0 : W.cell? ⟨h, 0, none⟩ = some v0) (h1 : W.cell? ⟨h, 1, none⟩ = some v1) (h2 : W.cell? ⟨h, 2, none⟩ = some v2) : Rd W (some ⟨h, 0, none⟩) [v0, v1, v2] := by
  refine .inr ⟨_, _, rfl, ?_⟩
  intro j u hj
  match j with
  | 0 => simp at hj; subst hj; simpa using h0
  | 1 => simp at hj; subst hj; simpa using h1
  | 2 => simp at hj; subst hj; simpa using h2
  | j + 3 => simp at hj
theorem conv_three (k : List UInt8) (v0 v1 v2 : Value) (hv : vs k = [v0, v1, v2]) (h : Nat) (W : World) (h0 : W.cell? ⟨h, 0, none⟩ = some v0) (h1 : W.cell? ⟨h, 1, none⟩ = some v1) (h2 : W.cell? ⟨h, 2, none⟩ = some v2) :
    (convert 65 9 (.slice (some ⟨h, 0, none⟩) 3 3)).run Tryd.prog W = .ok (.string (S k)) W :=
  run_conv_bs W 65 9 5 Tryd.underlying65 Tryd.underlying5 Tryd.underlying9 k _ 3 3 (by have := congrArg List.length hv; simpa [vs_length] using this) (by rw [hv]; exact hd_three _ _ _ _ _ h0 h1 h2)
theorem hd_be1 (n : Nat) : vs (be 1 n) = [.int .u8 ((n : Int) % 256)] := by simp [be, vs]
theorem three_vs (ct maj mn : Nat) (hct : (ct : Int) < 256) (hmaj : (maj : Int) < 256) (hmn : (mn : Int) < 256) : vs (be 1 ct ++ be 1 maj ++ be 1 mn) = [.int .u8 (ct : Int), .int .u8 (maj : Int), .int .u8 (mn : Int)] := by
  have a : (ct : Int) % 256 = ct := by omega
  have b : (maj : Int) % 256 = maj := by omega
  have c : (mn : Int) % 256 = mn := by omega
  simp only [vs_append, hd_be1, a, b, c]
  rfl
def hdRow (ct maj mn ep sq cl : Nat) (cid : List UInt8) : Array Value := #[.int .u8 (ct : Int), .int .u8 (maj : Int), .int .u8 (mn : Int), .int .u16 (ep : Int), .int .u64 (sq : Int), .int .u16 (cl : Int), .string (S cid)]
def hdCells (w' : World) (b : Nat) (ct maj mn ep sq cl : Nat) (cid : List UInt8) : Prop :=
  w'.cell? ⟨b, 0, none⟩ = some (.int .u8 (ct : Int)) ∧ w'.cell? ⟨b, 1, none⟩ = some (.int .u8 (maj : Int)) ∧ w'.cell? ⟨b, 2, none⟩ = some (.int .u8 (mn : Int)) ∧ w'.cell? ⟨b, 3, none⟩ = some (.int .u16 (ep : Int)) ∧ w'.cell? ⟨b, 4, none⟩ = some (.int .u64 (sq : Int)) ∧ w'.cell? ⟨b, 5, none⟩ = some (.int .u16 (cl : Int)) ∧ w'.cell? ⟨b, 6, none⟩ = some (.string (S cid))
theorem hdCells_of {w : World} {b : Nat} {t : TypeId} {ct maj mn ep sq cl : Nat} {cid : List UInt8} (h : Blk w b t (hdRow ct maj mn ep sq cl cid)) : hdCells w b ct maj mn ep sq cl cid :=
  ⟨(h.cell 0).trans rfl, (h.cell 1).trans rfl, (h.cell 2).trans rfl, (h.cell 3).trans rfl, (h.cell 4).trans rfl, (h.cell 5).trans rfl, (h.cell 6).trans rfl⟩
/-- A record's header. -/
def headOf (ct maj mn ep sq cl : Nat) (cid : List UInt8) : List UInt8 := be 1 ct ++ be 1 maj ++ be 1 mn ++ be 2 ep ++ be 6 sq ++ cid ++ be 2 cl
set_option maxHeartbeats 2000000 in
theorem headed_any (ct maj mn ep sq cl : Nat) (cid : List UInt8) (hn : cid.length ≤ 2147483647) (hct : (ct : Int) < 256) (hmaj : (maj : Int) < 256) (hmn : (mn : Int) < 256) (hep : (ep : Int) < 65536) (hcl : (cl : Int) < 65536) (w : World) :
    Calls Tryd.prog 22 #[.agg (hdRow ct maj mn ep sq cl cid)] w fun e w' => e = .returned (.string (S (headOf ct maj mn ep sq cl cid))) ∧ Below w.heap.size w w' := by
  have we : IntKind.u64.wrap (ep : Int) = (ep : Int) := by rw [IntKind.wrap_u64]; omega
  have wc : IntKind.u64.wrap (cl : Int) = (cl : Int) := by rw [IntKind.wrap_u64]; omega
  obtain ⟨k5, e5⟩ : ∃ k : List UInt8, be 1 ct ++ be 1 maj ++ be 1 mn = k := ⟨_, rfl⟩
  obtain ⟨ke, ee⟩ : ∃ k : List UInt8, be 2 ep = k := ⟨_, rfl⟩
  obtain ⟨ks, es⟩ : ∃ k : List UInt8, be 6 sq = k := ⟨_, rfl⟩
  obtain ⟨kb, eb⟩ : ∃ k : List UInt8, be 2 cl = k := ⟨_, rfl⟩
  obtain ⟨q1, d1⟩ : ∃ k : List UInt8, k5 ++ ke = k := ⟨_, rfl⟩
  obtain ⟨q2, d2⟩ : ∃ k : List UInt8, q1 ++ ks = k := ⟨_, rfl⟩
  obtain ⟨q3, d3⟩ : ∃ k : List UInt8, q2 ++ cid = k := ⟨_, rfl⟩
  obtain ⟨q4, d4⟩ : ∃ k : List UInt8, q3 ++ kb = k := ⟨_, rfl⟩
  have hq : q4 = headOf ct maj mn ep sq cl cid := by
    rw [← d4, ← d3, ← d2, ← d1, ← es, ← eb, ← e5, ← ee]; rfl
  have n5 : k5.length = 3 := by rw [← e5]; simp [be_length]
  have ne : ke.length = 2 := by rw [← ee]; exact be_length _ _
  have ns : ks.length = 6 := by rw [← es]; exact be_length _ _
  have nb : kb.length = 2 := by rw [← eb]; exact be_length _ _
  have m1 : q1.length = k5.length + ke.length := by rw [← d1, List.length_append]
  have m2 : q2.length = q1.length + ks.length := by rw [← d2, List.length_append]
  have m3 : q3.length = q2.length + cid.length := by rw [← d3, List.length_append]
  have m4 : q4.length = q3.length + kb.length := by rw [← d4, List.length_append]
  have ha1 := fun w => run_add_eq (P := Tryd.prog) k5 ke q1 d1 (by omega) w
  have ha2 := fun w => run_add_eq (P := Tryd.prog) q1 ks q2 d2 (by omega) w
  have ha3 := fun w => run_add_eq (P := Tryd.prog) q2 cid q3 d3 (by omega) w
  have ha4 := fun w => run_add_eq (P := Tryd.prog) q3 kb q4 d4 (by omega) w
  have HV : Hid (vs k5 = [.int .u8 (ct : Int), .int .u8 (maj : Int), .int .u8 (mn : Int)]) := by
    show vs k5 = _
    rw [← e5]; exact three_vs ct maj mn hct hmaj hmn
  have HE : Hid (∀ W, Calls Tryd.prog 29 #[.int .u64 (ep : Int), .int .i64 2] W fun e w' => e = .returned (.string (S ke)) ∧ Below W.heap.size W w') := by
    intro W; rw [← ee]; exact big_any 2 (by omega) ep W
  have HD : Hid (∀ W, Calls Tryd.prog 29 #[.int .u64 (sq : Int), .int .i64 6] W fun e w' => e = .returned (.string (S ks)) ∧ Below W.heap.size W w') := by
    intro W; rw [← es]; exact big_any 6 (by omega) sq W
  have HC : Hid (∀ W, Calls Tryd.prog 29 #[.int .u64 (cl : Int), .int .i64 2] W fun e w' => e = .returned (.string (S kb)) ∧ Below W.heap.size W w') := by
    intro W; rw [← eb]; exact big_any 2 (by omega) cl W
  have HQ := Lib.hid hq
  have HBX : Hid (∀ w', Below (w.alloc (.cells (hdRow ct maj mn ep sq cl cid) 74)).heap.size (w.alloc (.cells (hdRow ct maj mn ep sq cl cid) 74)) w' → hdCells w' w.heap.size ct maj mn ep sq cl cid) := by
    intro w' hb
    exact hdCells_of ((Blk.new w 74 (hdRow ct maj mn ep sq cl cid)).keep hb)
  clear d1 d2 d3 d4 m1 m2 m3 m4 n5 ne ns nb e5 ee eb es hq hn hmaj hmn hep hct hcl
  unfold hdRow hdCells at *
  go_enter Tryd.func22, Tryd.ntmps22
  go_wp2_with fail
  have hbW := below_alloc w (.cells #[.int .u8 (ct : Int), .int .u8 (maj : Int), .int .u8 (mn : Int), .int .u16 (ep : Int), .int .u64 (sq : Int), .int .u16 (cl : Int), .string (S cid)] 74)
  generalize w.alloc (.cells #[.int .u8 (ct : Int), .int .u8 (maj : Int), .int .u8 (mn : Int), .int .u16 (ep : Int), .int .u64 (sq : Int), .int .u16 (cl : Int), .string (S cid)] 74) = W at *
  have HCG : Hid (∀ (W' w' : World), Below (W'.alloc (.cells #[.int .u8 (ct : Int), .int .u8 (maj : Int), .int .u8 (mn : Int)] 5)).heap.size (W'.alloc (.cells #[.int .u8 (ct : Int), .int .u8 (maj : Int), .int .u8 (mn : Int)] 5)) w' → (convert 65 9 (.slice (some ⟨W'.heap.size, 0, none⟩) 3 3)).run Tryd.prog w' = .ok (.string (S k5)) w') := by
    intro W' w' hb
    have hB := (Blk.new W' 5 #[.int .u8 (ct : Int), .int .u8 (maj : Int), .int .u8 (mn : Int)]).keep hb
    exact conv_three k5 _ _ _ HV.out W'.heap.size w' ((hB.cell 0).trans rfl) ((hB.cell 1).trans rfl) ((hB.cell 2).trans rfl)
  have hcg : ∀ W' : World, (convert 65 9 (.slice (some ⟨W'.heap.size, 0, none⟩) 3 3)).run Tryd.prog (W'.alloc (.cells #[.int .u8 (ct : Int), .int .u8 (maj : Int), .int .u8 (mn : Int)] 5)) = .ok (.string (S k5)) (W'.alloc (.cells #[.int .u8 (ct : Int), .int .u8 (maj : Int), .int .u8 (mn : Int)] 5)) :=
    fun W' => HCG.out W' _ (Below.refl _ _)
  have HCV : Hid (∀ w' : World, Below (W.alloc (.cells #[.int .u8 (ct : Int), .int .u8 (maj : Int), .int .u8 (mn : Int)] 5)).heap.size (W.alloc (.cells #[.int .u8 (ct : Int), .int .u8 (maj : Int), .int .u8 (mn : Int)] 5)) w' → (convert 65 9 (.slice (some ⟨W.heap.size, 0, none⟩) 3 3)).run Tryd.prog w' = .ok (.string (S k5)) w') := HCG.out W
  have hcv := HCV.out ((W.alloc (.cells #[.int .u8 (ct : Int), .int .u8 (maj : Int), .int .u8 (mn : Int)] 5)).drew) (below_drew _)
  first
    | (go_region_held_law (fun w' => w'.cell? ⟨w.heap.size, 0, none⟩ = some (.int .u8 (ct : Int)) ∧ w'.cell? ⟨w.heap.size, 1, none⟩ = some (.int .u8 (maj : Int)) ∧ w'.cell? ⟨w.heap.size, 2, none⟩ = some (.int .u8 (mn : Int)) ∧ w'.cell? ⟨w.heap.size, 3, none⟩ = some (.int .u16 (ep : Int)) ∧ w'.cell? ⟨w.heap.size, 4, none⟩ = some (.int .u64 (sq : Int)) ∧ w'.cell? ⟨w.heap.size, 5, none⟩ = some (.int .u16 (cl : Int)) ∧ w'.cell? ⟨w.heap.size, 6, none⟩ = some (.string (S cid))) ((refine HBX.out _ ?_; (repeat (first | exact Below.refl _ _ | refine below_two ?_ hb2 | refine below_two ?_ hb6 | refine below_two ?_ hb8 | refine Below.drew ?_ | refine below_two ?_ (below_alloc _ _))); done)) (first
    | (go_at_call 29; with_reducible refine (HE.out _).mono ?_; rintro e w2 ⟨rfl, hb2⟩; (first | (have hy2 := HCG.out _ w2 hb2) | (have hx2 := HCV.out w2 (below_two (below_drew _) hb2)) | skip))
    | (go_at_call 29; with_reducible refine (HD.out _).mono ?_; rintro e w6 ⟨rfl, hb6⟩; (first | (have hy6 := HCG.out _ w6 hb6) | (have hy6 := HCG.out _ w6 (below_two hb2 hb6)) | (have hx6 := HCV.out w6 (below_two (below_drew _) hb6)) | (have hx6 := HCV.out w6 (below_two (below_two (below_drew _) hb2) hb6)) | skip))
    | (go_at_call 29; with_reducible refine (HC.out _).mono ?_; rintro e w8 ⟨rfl, hb8⟩; (first | (have hy8 := HCG.out _ w8 hb8) | (have hy8 := HCG.out _ w8 (below_two hb6 hb8)) | (have hy8 := HCG.out _ w8 (below_two (below_two hb2 hb6) hb8)) | (have hx8 := HCV.out w8 (below_two (below_drew _) hb8)) | (have hx8 := HCV.out w8 (below_two (below_two (below_two (below_drew _) hb2) hb6) hb8)) | skip))))
    | fail "no"
  all_goals
    go_wp2_with fail
    go_ret
    refine ⟨(by rw [← HQ.out]; first | done | rfl), ?_⟩
    refine below_two hbW ?_
    (repeat (first | exact Below.refl _ _ | refine below_two ?_ hb2 | refine below_two ?_ hb6 | refine below_two ?_ hb8 | refine Below.drew ?_ | refine below_two ?_ (below_alloc _ _)))
theorem and48 (x : Nat) (h : (x : Int) < 18446744073709551616) : bits BinOp.and IntKind.u64 (x : Int) 281474976710655 = ((x &&& 281474976710655 : Nat) : Int) := u64_and_nat x 281474976710655 (by omega) (by omega)
/-- A record: with no connection ID. -/
theorem framed_any (ct ep sq : Nat) (k : List UInt8) (hk : (k.length : Int) < 65536) (hct : (ct : Int) < 256) (hep : (ep : Int) < 65536) (hsq : (sq : Int) < 18446744073709551616) (w : World) :
    Calls Tryd.prog 11 #[.int .u8 ct, .int .u16 ep, .int .u64 sq, .string (S []), .string (S k)] w fun e w' => e = .returned (.string (S (headOf ct 254 253 ep (sq &&& 281474976710655) k.length [] ++ k))) ∧ Below w.heap.size w w' := by
  have h3 : (S k).size = k.length := S_size k
  have wl : IntKind.u16.wrap (k.length : Int) = (k.length : Int) := by rw [IntKind.wrap_u16]; omega
  have ha := and48 sq hsq
  obtain ⟨x, hx⟩ : ∃ x, sq &&& 281474976710655 = x := ⟨_, rfl⟩
  rw [hx] at ha ⊢
  have HH := Lib.hid (headed_any ct 254 253 ep x k.length [] (by simp) hct (by omega) (by omega) hep hk w)
  obtain ⟨q, hq⟩ : ∃ q, headOf ct 254 253 ep x k.length [] ++ k = q := ⟨_, rfl⟩
  have hql : q.length ≤ 9223372036854775807 := by rw [← hq]; simp [headOf, be_length]; omega
  have hadd := fun w => run_add_eq (P := Tryd.prog) _ k q hq hql w
  have HQ := Lib.hid hq
  unfold hdRow at HH
  clear hk hct hep hsq hx hq hql
  go_enter Tryd.func11, Tryd.ntmps11
  go_wp2_with fail
  refine HH.out.mono ?_
  rintro e w1 ⟨rfl, hb1⟩
  go_wp2_with fail
  go_ret
  exact ⟨by rw [← HQ.out]; rfl, hb1⟩
end Go.Proofs.YtadblfnggmaadaaDoor
