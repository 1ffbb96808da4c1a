/- Walks: a server's selected identity, written. -/
import Derived.Test.YtgnkfpfgolhokaaDoorBp5
import Derived.Test.YtgnkfpfgolhokaaDoorRow
namespace Go.Proofs.YtgnkfpfgolhokaaDoor
open Go.RowKit Go.Cv
set_option maxRecDepth 100000
set_option linter.unusedVariables false
def extSel (n : Nat) : Array Value := #[.int .u16 41, .string (S []), .slice none 0 0, .slice none 0 0, .slice none 0 0, .bool false, .int .u32 (n : Int), .bool false, .slice none 0 0, .slice none 0 0, .slice none 0 0, .slice none 0 0, .slice none 0 0]
theorem extInfo : (Tryd.prog.info? 34).map (·.size) = some 13 := by kernel_rfl
def pskRow (n : Nat) : Array Value := #[.slice none 0 0, .slice none 0 0, .int .u16 (n : Int)]
theorem makeSel_any (n : Nat) (hn : (n : Int) < 65536) (cs : Array Value) (h2 : cs[2]? = some (.slice none 0 0)) (h6 : cs[6]? = some (.int .u32 (n : Int))) (h11 : cs[11]? = some (.slice none 0 0)) (w : World) :
    Calls Tryd.prog 31 #[.agg cs] w fun e w' => ∃ b, e = .returned (.pointer (some ⟨b, 0, none⟩)) ∧ Blk w' b 102 (pskRow n) ∧ Below w.heap.size w w' := by
  have wn : IntKind.u16.wrap (n : Int) = (n : Int) := by rw [IntKind.wrap_u16]; omega
  clear hn
  go_enter Tryd.func31, Tryd.ntmps31
  go_wp2_with fail
  refine wp_loop_rounds 1 ?_
  rw [rounds_succ]
  go_wp2_with fail
  refine wp_loop_rounds 1 ?_
  rw [rounds_succ]
  go_wp2_with fail
  go_ret
  have h := Blk.new (w.alloc (.cells cs 34)) 102 (pskRow n)
  rw [World.size_alloc] at h
  exact ⟨_, rfl, h, below_two (below_alloc _ _) (below_alloc _ _)⟩
theorem pskType_any (v : Array Value) (w : World) : Calls Tryd.prog 54 #[.agg v] w fun e w' => e = .returned (.int .u16 41) ∧ Below w.heap.size w w' := by
  go_enter Tryd.func54, Tryd.ntmps54
  go_wp2_with fail
  go_ret
  exact ⟨rfl, by first | exact below_alloc _ _ | exact Below.refl _ _⟩
theorem enters {f : FuncId} {fn : Func} {c : Code} (hf : Tryd.prog.funcs[f]? = some fn) (hname : (fn.name == "runtime.NumGoroutine") = false) (hb : fn.body = some c) (args : Array Value) (w : World) :
    (callFunc f args).run Tryd.prog w = .ok (.enter f args) w := by
  have h1 : fn.name ≠ "runtime.NumGoroutine" := by simpa using hname
  simp [callFunc, hf, h1, hb]
/-- What the continuation adds: the number. -/
theorem selFill (P0 : Nat → Prop) (w0 : World) (x b icb n : Nat) (hx : w0.cell? ⟨x, 0, none⟩ = some (.pointer (some ⟨b, 0, none⟩))) (hb : w0.cell? ⟨b, 2, none⟩ = some (.int .u16 (n : Int))) (hPx : P0 x) (hPb : P0 b) :
    Fills P0 w0 55 #[.pointer (some ⟨x, 0, none⟩)] icb (be 2 n) := by
  intro w1 P q off pl l hsub hk hic hPi h0 hs hbp
  have h1 := hk.cell hx hPx
  have h2 := hk.cell hb hPb
  have HA := Lib.hid (addP16_any P q (.pointer (some ⟨icb, 0, none⟩)) off pl l n (by rw [be_length] at hs; omega) w1 hbp)
  clear hx hb hPx hPb hsub hk hic hPi h0 hs hbp
  show Calls Tryd.prog 55 #[.pointer (some ⟨q, 0, none⟩), .pointer (some ⟨x, 0, none⟩)] w1 _
  go_enter Tryd.func55, Tryd.ntmps55
  go_wp2_with fail
  refine HA.out.mono ?_
  rintro e w2 ⟨rfl, h3, h4⟩
  go_wp2_with fail
  go_end0
  exact ⟨rfl, h3, h4⟩
theorem BP.start (w : World) (P : Nat → Prop) (hP : ∀ k, P k → k < w.heap.size) : BP P (w.alloc (.cells #[.nilIface, .slice none 0 0, .bool false, .pointer none, .int .i64 0, .int .i64 0, .bool false, .pointer none] 83)) w.heap.size (.pointer none) 0 0 [] :=
  ⟨none, 0, Blk.new _ _ _, Own.nil _ _ _, .inl rfl, fun h => Nat.lt_irrefl _ (hP _ h), fun k hk => by rw [World.size_alloc]; exact Nat.lt_succ_of_lt (hP k hk)⟩
theorem marshalSel_any (b n : Nat) (hn : (n : Int) < 65536) (w : World) (hk : Blk w b 102 (pskRow n)) :
    Calls Tryd.prog 32 #[.pointer (some ⟨b, 0, none⟩)] w fun e w' => ∃ A' n' c', e = .returned (.tuple #[.slice A' n' c', .nilIface]) ∧ (be 2 41 ++ (be 2 (be 2 n).length ++ be 2 n)).length = n' ∧ Rd w' A' (vs (be 2 41 ++ (be 2 (be 2 n).length ++ be 2 n))) ∧ Below w.heap.size w w' := by
  have hmf : ∀ (fn : Fn) (first cap : Array Value) (w : World), (Instr.makeFunc fn first cap).run Tryd.prog w = .ok (.func fn first cap) w := fun _ _ _ _ => rfl
  have hps := hk.lt
  have c0 := hk.cell 0
  have c1 := hk.cell 1
  have c2 := hk.cell 2
  simp [pskRow] at c0 c1 c2
  have HK := Lib.hid hk
  clear hk
  go_enter Tryd.func32, Tryd.ntmps32
  go_wp2_with fail
  have hba := below_alloc w (.cells #[.pointer (some ⟨b, 0, none⟩)] 65)
  have hsz := World.size_alloc w (.cells #[.pointer (some ⟨b, 0, none⟩)] 65)
  have hbp := BP.start (w.alloc (.cells #[.pointer (some ⟨b, 0, none⟩)] 65)) (fun k => k < w.heap.size + 1) (fun k hk => by rw [hsz]; exact hk)
  have hx := ((Blk.new w 65 #[.pointer (some ⟨b, 0, none⟩)]).alloc (.cells #[.nilIface, .slice none 0 0, .bool false, .pointer none, .int .i64 0, .int .i64 0, .bool false, .pointer none] 83)).cell 0
  replace hx := hx.trans (rfl : _ = some (Value.pointer (some ⟨b, 0, none⟩)))
  have hb2 : Below w.heap.size w ((w.alloc (.cells #[.pointer (some ⟨b, 0, none⟩)] 65)).alloc (.cells #[.nilIface, .slice none 0 0, .bool false, .pointer none, .int .i64 0, .int .i64 0, .bool false, .pointer none] 83)) := below_two hba (below_alloc _ _)
  rw [hsz] at hbp
  clear c0 c1 c2 hba hsz
  generalize (w.alloc (.cells #[.pointer (some ⟨b, 0, none⟩)] 65)).alloc (.cells #[.nilIface, .slice none 0 0, .bool false, .pointer none, .int .i64 0, .int .i64 0, .bool false, .pointer none] 83) = W at *
  refine (pskType_any _ W).mono ?_
  rintro e w3 ⟨rfl, hb3⟩
  have HA := Lib.hid (addP16_any (fun k => k < w.heap.size + 1) (w.heap.size + 1) (.pointer none) 0 0 [] 41 (by simp) w3 (hbp.keep hb3))
  have HB3 := Lib.hid (below_two hb2 hb3)
  have HX3 := Lib.hid (keep_of_below hb3 _ _ hx)
  clear hbp hb2 hb3 hx
  go_wp2_with fail
  refine HA.out.mono ?_
  rintro e w4 ⟨rfl, hb4, hk4⟩
  have hx4 := hk4.cell HX3.out (Nat.lt_succ_self _)
  have hkb := (HK.out.keep HB3.out).kp hk4 (Nat.lt_succ_of_lt hps)
  have c0 := hkb.cell 0
  have c1 := hkb.cell 1
  have c2 := hkb.cell 2
  simp [pskRow] at c0 c1 c2
  have HAL := Lib.hid (alp16Top_any (fun k => k < w.heap.size + 1) w4 55 #[.pointer (some ⟨w.heap.size, 0, none⟩)] (w.heap.size + 1) 0 0 (be 2 41) (be 2 n) (enters Tryd.func55 (by kernel_rfl) rfl) (by rw [be_length]; omega) (by rw [be_length, be_length]; omega) (by simpa using hb4) (fun icb => selFill _ w4 w.heap.size b icb n hx4 c2 (Nat.lt_succ_self _) (Nat.lt_succ_of_lt hps)))
  have HK4 : Hid (Kp (fun k => k < w.heap.size + 1) w w4) := Lib.hid ((Kp.below HB3.out).trans hk4)
  clear hb4 hk4 hkb HA
  go_wp2_with fail
  refine HAL.out.mono ?_
  rintro e w5 ⟨rfl, icb, hb5, hk5⟩
  have HBY := Lib.hid (bytesP_any _ (w.heap.size + 1) _ _ _ (by simp [be_length]) w5 hb5)
  have HB5 : Hid (Below w.heap.size w w5) := Lib.hid ((HK4.out.trans hk5).toBelow (Nat.le_refl _) (fun k hk => Nat.lt_succ_of_lt hk))
  clear hb5 hk5 HAL
  go_wp2_with fail
  refine HBY.out.mono ?_
  rintro e w6 ⟨A', n', c', rfl, h1, h2, h3⟩
  have H1 := Lib.hid h1
  have H2 := Lib.hid h2
  have H3 := Lib.hid h3
  clear h1 h2 h3
  go_wp2_with fail
  go_ret2
  exact ⟨_, _, _, rfl, H1.out, H2.out, below_two HB5.out H3.out⟩
theorem selWrite_any (n : Nat) (hn : (n : Int) < 65536) (w : World) :
    Calls Tryd.prog 15 #[.agg (extSel n)] w fun e w' => e = .returned (.tuple #[.string (S (be 2 41 ++ (be 2 (be 2 n).length ++ be 2 n))), .bool true]) ∧ Below w.heap.size w w' := by
  obtain ⟨cs, hcs⟩ : ∃ cs, extSel n = cs := ⟨_, rfl⟩
  have HM := Lib.hid (fun w => makeSel_any n hn cs (by rw [← hcs]; rfl) (by rw [← hcs]; rfl) (by rw [← hcs]; rfl) w)
  have HC := Lib.hid (fun b w hk => marshalSel_any b n hn w hk)
  have hi : (Tryd.prog.info? 34).map (·.size) = some cs.size := by rw [← hcs]; exact extInfo
  rw [hcs]
  clear hn hcs
  go_enter Tryd.func15, Tryd.ntmps15
  have hg := heap_alloc_new w (.cells cs 34)
  go_wp2_with (with_reducible refine wpList_load_row rfl 34 (.tmp 1) rfl w.heap.size (by with_unfolding_all rfl) 34 cs (0, 0) _ hg Tryd.underlying34 (by with_unfolding_all rfl) hi ?_)
  clear hi hg
  go_wp2_with fail
  refine (HM.out _).mono ?_
  rintro e w1 ⟨b, rfl, hk, hb1⟩
  have HCC := Lib.hid (HC.out b w1 hk)
  have HB1 := Lib.hid (below_two (below_alloc w _) hb1)
  clear hk hb1 HM HC
  go_wp2_with fail
  refine HCC.out.mono ?_
  rintro e w2 ⟨A', n', c', rfl, hn', hr2, hb2⟩
  have HT := Lib.hid (text_any A' n' c' _ hn' w2 hr2)
  have HB2 := Lib.hid (below_two HB1.out hb2)
  clear hn' hr2 hb2
  go_wp2_with fail
  refine HT.out.mono ?_
  rintro e w3 ⟨rfl, rfl⟩
  go_wp2_with fail
  go_ret2
  exact ⟨rfl, HB2.out⟩
theorem sel_row (x : Int) (wx : (Lit.int .u16 x).wf = true) (w : World) {p : Prop} (ad0 : Addr) (g0 : p) :
    Calls Tryd.prog 5 #[.int .u16 x] w fun e w' => e = .returned (.bool true) ∧ Below w.heap.size w w' := by
  obtain ⟨n, rfl, hn⟩ := nat_u16 wx
  have w32 : IntKind.u32.wrap (n : Int) = (n : Int) := by rw [IntKind.wrap_u32]; omega
  have w64 : IntKind.u64.wrap (n : Int) = (n : Int) := by rw [IntKind.wrap_u64]; omega
  have HW := Lib.hid (fun w => selWrite_any n hn w)
  have HB := Lib.hid (fun w => big_any 2 (by omega) n w)
  have HF := Lib.hid (fun w => framedExt_any 41 (by omega) (be 2 n) (by rw [be_length]; omega) w)
  unfold extSel at HW
  clear wx hn
  go_enter Tryd.func5, Tryd.ntmps5
  go_wp2_with fail
  refine (HW.out _).mono ?_
  rintro e w1 ⟨rfl, hb1⟩
  have HB1 := Lib.hid hb1
  clear hb1 HW
  go_wp2_with fail
  refine (HB.out _).mono ?_
  rintro e w2 ⟨rfl, hb2⟩
  have HB2 := Lib.hid (below_two HB1.out hb2)
  clear hb2
  go_wp2_with fail
  refine (HF.out _).mono ?_
  rintro e w3 ⟨rfl, hb3⟩
  go_wp2_with fail
  go_ret
  exact ⟨by simp, below_two HB2.out hb3⟩
end Go.Proofs.YtgnkfpfgolhokaaDoor
