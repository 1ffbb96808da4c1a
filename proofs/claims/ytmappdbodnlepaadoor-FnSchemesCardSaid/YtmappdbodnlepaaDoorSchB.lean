/- Walks: one signature scheme, written and read as the laws have it. -/
import Derived.Test.YtmappdbodnlepaaDoorSchA
namespace Go.Proofs.YtmappdbodnlepaaDoor
open Go.RowKit Go.Cv
set_option maxRecDepth 100000
set_option linter.unusedVariables false
theorem sm_or (x y : Nat) (hx : x < 256) (hy : y < 256) : bits BinOp.or IntKind.u64 ((x : Int) * 256) (y : Int) = ((x * 256 + y : Nat) : Int) := by
  have e : ((x : Int) * 256) = ((x * 256 : Nat) : Int) := by simp
  have h : (x * 256) ||| y = x * 256 + y := by
    rw [show (256 : Nat) = 2 ^ 8 from rfl, ← Nat.shiftLeft_eq, Nat.shiftLeft_add_eq_or_of_lt hy]
  rw [e, u64_or_nat _ _ (by omega) (by omega), h]
theorem sm_or0 (x : Nat) (hx : x < 256) : bits BinOp.or IntKind.u64 (0 : Int) (x : Int) = (x : Int) := by
  have := u64_or_nat 0 x (by omega) (by omega)
  simpa using this
theorem small2 (x y : UInt8) (w : World) : Calls Tryd.prog 23 #[.string (S [x, y])] w fun e w' => e = .returned (.int .u64 ((x.toNat * 256 + y.toNat : Nat) : Int)) ∧ w = w' := by
  have h3 : (S [x, y]).size = 2 := S_size _
  have hx := x.toNat_lt
  have hy := y.toNat_lt
  have o1 := sm_or x.toNat y.toNat hx hy
  have o0 := sm_or0 x.toNat hx
  have m1 : IntKind.u64.wrap ((x.toNat : Int) * 256) = (x.toNat : Int) * 256 := by rw [IntKind.wrap_u64]; omega
  have m2 : IntKind.u64.wrap (x.toNat : Int) = (x.toNat : Int) := by rw [IntKind.wrap_u64]; omega
  have m3 : IntKind.u64.wrap (y.toNat : Int) = (y.toNat : Int) := by rw [IntKind.wrap_u64]; omega
  go_enter Tryd.func23, Tryd.ntmps23
  go_wp2_with fail
  refine wp_loop_rounds 3 ?_
  rw [rounds_succ]
  go_wp2_with fail
  rw [rounds_succ]
  go_wp2_with fail
  rw [rounds_succ]
  go_wp2_with fail
  go_ret
  refine ⟨?_, rfl⟩
  show Ending.returned (.int .u64 (bits BinOp.or IntKind.u64 (IntKind.u64.wrap (bits BinOp.or IntKind.u64 0 (IntKind.u64.wrap (x.toNat : Int)) * 256)) (IntKind.u64.wrap (y.toNat : Int)))) = _
  rw [m2, o0, m1, m3, o1]
theorem be2_bytes (m : Nat) (h : m < 65536) : ∃ a b : UInt8, be 2 m = [a, b] ∧ a.toNat * 256 + b.toNat = m :=
  ⟨UInt8.ofNat (m / 256), UInt8.ofNat m, by simp [be], by rw [UInt8.toNat_ofNat', UInt8.toNat_ofNat']; omega⟩
theorem OkP.code_lt {h s : Nat} (ok : OkP h s) : code h s < 65536 := by
  rcases ok.split with ⟨hs, h2, h8⟩ | ⟨hs, _⟩
  · unfold code; rw [if_neg (by omega)]; omega
  · unfold code; rw [if_pos (by omega)]; omega
theorem schWrite_any (h s : Nat) (ok : OkP h s) (w : World) : Calls Tryd.prog 24 #[.int .u16 (h : Int), .int .u16 (s : Int)] w fun e w' => e = .returned (.string (S (be 2 (code h s)))) ∧ Below w.heap.size w w' := by
  have HP := Lib.hid (pairs_any w.heap.size 0 1 1 [(h, s)] rfl (by omega) (by omega) (w.alloc (.cells #[.int .u16 (h : Int), .int .u16 (s : Int)] 33)) (rd_pair w _ _ _))
  have HOK := Lib.hid ok
  clear ok
  go_enter Tryd.func24, Tryd.ntmps24
  go_wp2_with fail
  refine HP.out.mono ?_
  rintro e w1 ⟨a, c', rfl, hr, ha, hb⟩
  have hb1 := below_two (below_alloc w _) hb
  obtain ⟨c0, c1⟩ := pairCell hr 0 h s rfl
  simp at c0 c1
  clear hr ha hb HP
  go_wp2_with fail
  have HM := Lib.hid (algM_any w1.heap.size h s HOK.out (w1.alloc (.cells #[.int .u16 (h : Int), .int .u16 (s : Int)] 106)) (Blk.new w1 _ _))
  have hb2 := below_two hb1 (below_alloc w1 (.cells #[.int .u16 (h : Int), .int .u16 (s : Int)] 106))
  clear hb1 c0 c1
  refine HM.out.mono ?_
  rintro e w2 ⟨rfl, hO, hb3⟩
  have hb4 := below_two hb2 hb3
  have hrd := hO.rd
  rw [World.size_alloc] at hrd
  clear hO hb3 hb2 HM
  go_wp2_with fail
  refine upon_conv_bs 39 9 5 Tryd.underlying39 Tryd.underlying5 Tryd.underlying9 (be 2 (code h s)) _ 2 2 (be_length 2 _) hrd ?_
  go_wp2_with fail
  go_ret
  exact ⟨rfl, hb4⟩
theorem prSize : (Tryd.prog.info? 33).map (·.size) = some 2 := by kernel_rfl
theorem schRead_any (h s : Nat) (ok : OkP h s) (w : World) : Calls Tryd.prog 22 #[.int .u16 (code h s : Nat)] w fun e w' => e = .returned (.tuple #[.agg #[.int .u16 (h : Int), .int .u16 (s : Int)], .bool true]) ∧ Below w.heap.size w w' := by
  have HOK := Lib.hid ok
  clear ok
  go_enter Tryd.func22, Tryd.ntmps22
  go_wp2_with fail
  have HU := Lib.hid (algUnm_ok (w.heap.size + 1) h s HOK.out _ _ ((w.alloc (.cells #[.int .u16 0, .int .u16 0] 33)).alloc (.cells #[.int .u16 0, .int .u16 0] 106)) (by simpa using Blk.new (w.alloc (.cells #[.int .u16 0, .int .u16 0] 33)) 106 #[.int .u16 0, .int .u16 0]))
  refine HU.out.mono ?_
  rintro e w1 ⟨rfl, hk, ht⟩
  have hM := ((Blk.new w 33 #[.int .u16 0, .int .u16 0]).alloc (.cells #[.int .u16 0, .int .u16 0] 106)).tch ht (by simp)
  have hT : Tch [] w w1 := ((Tch.alloc w (.cells #[.int .u16 0, .int .u16 0] 33)).then (Tch.alloc _ (.cells #[.int .u16 0, .int .u16 0] 106)) (by simp)).then ht (by simp)
  have q0 := (hk.cell 0).trans (rfl : _ = some (Value.int .u16 (h : Int)))
  have q1 := (hk.cell 1).trans (rfl : _ = some (Value.int .u16 (s : Int)))
  have HM := Lib.hid hM
  have HT := Lib.hid hT
  clear hk ht hM hT HU
  go_wp2_with fail
  have HP := Lib.hid (pairsData_any w1.heap.size 0 1 1 [(h, s)] rfl (by omega) (by omega) (w1.alloc (.cells #[.int .u16 (h : Int), .int .u16 (s : Int)] 106)) (rd_pair w1 _ _ _))
  have HM2 := Lib.hid (HM.out.keep (below_alloc w1 (.cells #[.int .u16 (h : Int), .int .u16 (s : Int)] 106)))
  have HT2 := Lib.hid (HT.out.then (Tch.alloc w1 (.cells #[.int .u16 (h : Int), .int .u16 (s : Int)] 106)) (by simp))
  clear q0 q1 HM HT
  refine HP.out.mono ?_
  rintro e w2 ⟨a, c', rfl, hr, ha, hb⟩
  obtain ⟨c0, c1⟩ := pairCell hr 0 h s rfl
  simp at c0 c1
  have hM3 := HM2.out.keep hb
  have HT3 := Lib.hid (HT2.out.then (Tch.below hb []) (by simp))
  have m0 := (hM3.cell 0).trans (rfl : _ = some (Value.int .u16 0))
  have m1 := (hM3.cell 1).trans (rfl : _ = some (Value.int .u16 0))
  have f0 := hM3.frozen 0
  have f1 := hM3.frozen 1
  have HM3 := Lib.hid hM3
  clear hr ha hb HP HM2 HT2 hM3
  go_wp2_with fail
  have hkF := (HM3.out.set_ 0 (.int .u16 (h : Int))).set_ 1 (.int .u16 (s : Int))
  have hkF2 : Blk ((w2.setCell ⟨w.heap.size, 0, none⟩ (.int .u16 (h : Int))).setCell ⟨w.heap.size, 1, none⟩ (.int .u16 (s : Int))) w.heap.size 33 #[.int .u16 (h : Int), .int .u16 (s : Int)] := hkF
  exact bodyPost_cell2 rfl rfl rfl hkF2 Tryd.underlying33 prSize ⟨rfl, ((HT3.out.then (Tch.set w2 w.heap.size 0 (.int .u16 (h : Int))) (by simp)).then (Tch.set _ w.heap.size 1 (.int .u16 (s : Int))) (by simp)).toBelow (Nat.le_refl _)⟩
theorem algs10 (w : World) : Calls Tryd.prog 51 #[] w fun e w' => e = .returned (.slice (some ⟨w.heap.size, 0, none⟩) 10 10) ∧ Rd w' (some ⟨w.heap.size, 0, none⟩) (pv [(4, 3), (5, 3), (6, 3), (8, 7), (4, 2052), (5, 2053), (6, 2054), (4, 1), (5, 1), (6, 1)]) ∧ Below w.heap.size w w' := by
  go_enter Tryd.func51, Tryd.ntmps51
  go_wp2_with fail
  go_ret
  exact ⟨rfl, rd_new w _ _, below_alloc _ _⟩
theorem algs13 (w : World) : Calls Tryd.prog 50 #[] w fun e w' => e = .returned (.slice (some ⟨w.heap.size, 0, none⟩) 10 10) ∧ Rd w' (some ⟨w.heap.size, 0, none⟩) (pv [(4, 3), (5, 3), (6, 3), (8, 7), (4, 2052), (5, 2053), (6, 2054), (4, 1), (5, 1), (6, 1)]) ∧ Below w.heap.size w w' := by
  go_enter Tryd.func50, Tryd.ntmps50
  go_wp2_with fail
  go_ret
  exact ⟨rfl, rd_new w _ _, below_alloc _ _⟩
end Go.Proofs.YtmappdbodnlepaaDoor
