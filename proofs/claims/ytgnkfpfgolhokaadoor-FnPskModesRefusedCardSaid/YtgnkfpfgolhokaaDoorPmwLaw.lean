/- Walks: the law of modes that are refused. -/
import Derived.Test.YtgnkfpfgolhokaaDoorPmw
namespace Go.Proofs.YtgnkfpfgolhokaaDoor
open Go.RowKit Go.Cv
set_option maxRecDepth 100000
set_option linter.unusedVariables false
theorem pmFill1 (P0 : Nat → Prop) (w0 : World) (x b ra n c icb : Nat) (zs : List Nat) (hn : zs.length = n) (h6 : n ≤ 255) (hz : ∀ z ∈ zs, z < 256) (hx : w0.cell? ⟨x, 0, none⟩ = some (.pointer (some ⟨b, 0, none⟩))) (hb : w0.cell? ⟨b, 0, none⟩ = some (.slice (some ⟨ra, 0, none⟩) n c)) (hr : Rd w0 (some ⟨ra, 0, none⟩) (vs (flat 1 zs))) (hPx : P0 x) (hPb : P0 b) (hPr : P0 ra) :
    Fills P0 w0 68 #[.pointer (some ⟨x, 0, none⟩)] icb (be 1 (flat 1 zs).length ++ flat 1 zs) := by
  intro w1 P q off pl k hsub hk hic hPi h0 hs hbp
  rw [List.length_append, be_length] at hs
  have hmf : ∀ (fn : Fn) (first cap : Array Value) (w : World), (Instr.makeFunc fn first cap).run Tryd.prog w = .ok (.func fn first cap) w := fun _ _ _ _ => rfl
  have HA := Lib.hid (alp8In_any P w1 69 #[.pointer (some ⟨x, 0, none⟩)] q icb off pl k (flat 1 zs) (enters Tryd.func69 (by kernel_rfl) rfl) (by rw [flat1_len, hn]; omega) (by omega) hbp hic hPi
    (pmFill2 P w1 x b ra n c icb zs hn h6 hz (hk.cell hx hPx) (hk.cell hb hPb) (hr.kp hk hPr) (hsub _ hPx) (hsub _ hPb) (hsub _ hPr)))
  clear hx hb hr hPx hPb hPr hsub hk hic hPi h0 hs hbp h6 hn hz
  show Calls Tryd.prog 68 #[.pointer (some ⟨q, 0, none⟩), .pointer (some ⟨x, 0, none⟩)] w1 _
  go_enter Tryd.func68, Tryd.ntmps68
  go_wp2_with fail
  refine HA.out.mono ?_
  rintro e w2 ⟨rfl, h3, h4⟩
  go_wp2_with fail
  go_end0
  exact ⟨rfl, h3, h4⟩
theorem pmType_any (v : Array Value) (w : World) : Calls Tryd.prog 67 #[.agg v] w fun e w' => e = .returned (.int .u16 45) ∧ Below w.heap.size w w' := by
  go_enter Tryd.func67, Tryd.ntmps67
  go_wp2_with fail
  go_ret
  exact ⟨rfl, by first | exact below_alloc _ _ | exact Below.refl _ _⟩
set_option maxHeartbeats 1000000 in
theorem marshalPm_any (b ra n c : Nat) (zs : List Nat) (hn : zs.length = n) (h0 : 0 < n) (h6 : n ≤ 255) (hz : ∀ z ∈ zs, z < 256) (w : World) (hk : Blk w b 75 #[.slice (some ⟨ra, 0, none⟩) n c]) (hr : Rd w (some ⟨ra, 0, none⟩) (vs (flat 1 zs))) (hra : ra < w.heap.size) :
    Calls Tryd.prog 37 #[.pointer (some ⟨b, 0, none⟩)] w fun e w' => ∃ A' n' c' m, e = .returned (.tuple #[.slice A' n' c', .nilIface]) ∧ List.length m = n' ∧ Rd w' A' (vs m) ∧ Below w.heap.size w w' := by
  have hmf : ∀ (fn : Fn) (first cap : Array Value) (w : World), (Instr.makeFunc fn first cap).run Tryd.prog w = .ok (.func fn first cap) w := fun _ _ _ _ => rfl
  have hps := hk.lt
  have c0 := hk.cell 0
  simp at c0
  have t1 : ((n : Int) == 0) = false := by simp; omega
  have t1' : ¬ n = 0 := by omega
  have HK := Lib.hid hk
  have HR := Lib.hid hr
  have HRA := Lib.hid hra
  have HN := Lib.hid hn
  have H6 := Lib.hid h6
  have HZ := Lib.hid hz
  have H0 := Lib.hid h0
  clear hk hr hra hn h0 h6 hz
  go_enter Tryd.func37, Tryd.ntmps37
  go_wp2_with fail
  have hba := below_alloc w (.cells #[.pointer (some ⟨b, 0, none⟩)] 71)
  have hsz := World.size_alloc w (.cells #[.pointer (some ⟨b, 0, none⟩)] 71)
  have hbp := BP.start (w.alloc (.cells #[.pointer (some ⟨b, 0, none⟩)] 71)) (fun k => k < w.heap.size + 1) (fun k hk => by rw [hsz]; exact hk)
  have hx := ((Blk.new w 71 #[.pointer (some ⟨b, 0, none⟩)]).alloc (.cells #[.nilIface, .slice none 0 0, .bool false, .pointer none, .int .i64 0, .int .i64 0, .bool false, .pointer none] 83)).cell 0
  replace hx := hx.trans (rfl : _ = some (Value.pointer (some ⟨b, 0, none⟩)))
  have hb2 : Below w.heap.size w ((w.alloc (.cells #[.pointer (some ⟨b, 0, none⟩)] 71)).alloc (.cells #[.nilIface, .slice none 0 0, .bool false, .pointer none, .int .i64 0, .int .i64 0, .bool false, .pointer none] 83)) := below_two hba (below_alloc _ _)
  rw [hsz] at hbp
  clear c0 hba hsz
  generalize (w.alloc (.cells #[.pointer (some ⟨b, 0, none⟩)] 71)).alloc (.cells #[.nilIface, .slice none 0 0, .bool false, .pointer none, .int .i64 0, .int .i64 0, .bool false, .pointer none] 83) = W at *
  refine (pmType_any _ W).mono ?_
  rintro e w3 ⟨rfl, hb3⟩
  have HA := Lib.hid (addP16_any (fun k => k < w.heap.size + 1) (w.heap.size + 1) (.pointer none) 0 0 [] 45 (by simp) w3 (hbp.keep hb3))
  have HB3 := Lib.hid (below_two hb2 hb3)
  have HX3 := Lib.hid (keep_of_below hb3 _ _ hx)
  clear hbp hb2 hb3
  go_wp2_with fail
  refine HA.out.mono ?_
  rintro e w4 ⟨rfl, hb4, hk4⟩
  have hx4 := hk4.cell HX3.out (Nat.lt_succ_self _)
  have hkb := (HK.out.keep HB3.out).kp hk4 (Nat.lt_succ_of_lt hps)
  have c0 := hkb.cell 0
  simp at c0
  have HAL := Lib.hid (alp16Top_any (fun k => k < w.heap.size + 1) w4 68 #[.pointer (some ⟨w.heap.size, 0, none⟩)] (w.heap.size + 1) 0 0 (be 2 45) (be 1 (flat 1 zs).length ++ flat 1 zs) (enters Tryd.func68 (by kernel_rfl) rfl) (by rw [List.length_append, be_length, flat1_len, HN.out]; have := H6.out; omega) (by rw [List.length_append, be_length, be_length, flat1_len, HN.out]; have := H6.out; omega) (by simpa using hb4) (fun icb => pmFill1 _ w4 w.heap.size b ra n c icb zs HN.out H6.out HZ.out hx4 c0 ((HR.out.keep HB3.out).kp hk4 (Nat.lt_succ_of_lt HRA.out)) (Nat.lt_succ_self _) (Nat.lt_succ_of_lt hps) (Nat.lt_succ_of_lt HRA.out)))
  have HK4 : Hid (Kp (fun k => k < w.heap.size + 1) w w4) := Lib.hid ((Kp.below HB3.out).trans hk4)
  clear hb4 hk4 hkb HA
  go_wp2_with fail
  refine HAL.out.mono ?_
  rintro e w5 ⟨rfl, icb, hb5, hk5⟩
  have HBY := Lib.hid (bytesP_any _ (w.heap.size + 1) _ _ _ (by rw [List.length_append, be_length]; omega) w5 hb5)
  have HB5 : Hid (Below w.heap.size w w5) := Lib.hid ((HK4.out.trans hk5).toBelow (Nat.le_refl _) (fun k hk => Nat.lt_succ_of_lt hk))
  clear hb5 hk5 HAL
  go_wp2_with fail
  refine HBY.out.mono ?_
  rintro e w6 ⟨A', n', c', rfl, h1, h2, h3⟩
  have H1 := Lib.hid h1
  have H2 := Lib.hid h2
  have H3 := Lib.hid h3
  clear h1 h2 h3
  go_wp2_with fail
  go_ret2
  exact ⟨_, _, _, _, rfl, H1.out, H2.out, below_two HB5.out H3.out⟩
theorem marshalPm_no (b c : Nat) (A : Option Addr) (w : World) (hk : Blk w b 75 #[.slice A 0 c]) (ad : Addr) (hg : w.cell? ⟨6, 0, none⟩ = some (.iface 135 (.pointer (some ad)))) :
    Calls Tryd.prog 37 #[.pointer (some ⟨b, 0, none⟩)] w fun e w' => ∃ ad, e = .returned (.tuple #[.slice none 0 0, .iface 135 (.pointer (some ad))]) ∧ Below w.heap.size w w' := by
  have hps := hk.lt
  have c0 := hk.cell 0
  simp at c0
  have hgs := block_lt hg
  simp at hgs
  clear hk
  go_enter Tryd.func37, Tryd.ntmps37
  go_wp2_with fail
  go_quiet (fail)
  go_wp2_with fail
  go_ret2
  exact ⟨ad, rfl, below_drewN (below_alloc _ _) nq⟩
theorem pmText_no (A : Option Addr) (n c : Nat) (ty : TypeId) (p : Value) (w : World) :
    Calls Tryd.prog 25 #[.slice A n c, .iface ty p] w fun e w' => e = .returned (.tuple #[.string (S []), .bool false]) ∧ w = w' := by
  go_enter Tryd.func25, Tryd.ntmps25
  go_wp2_with fail
  go_ret2
  exact ⟨rfl, rfl⟩
/-- Nothing is made of no modes. -/
theorem makePm_nil (A : Option Addr) (c : Nat) (cs : Array Value) (h3 : cs[3]? = some (.slice A 0 c)) (w : World) :
    Calls Tryd.prog 36 #[.agg cs] w fun e w' => ∃ g, e = .returned (.pointer (some ⟨g, 0, none⟩)) ∧ Blk w' g 75 #[.slice none 0 0] ∧ Below w.heap.size w w' := by
  have hkb := Blk.new (w.alloc (.cells cs 34)) 75 #[.slice none 0 0]
  rw [World.size_alloc] at hkb
  have HKB := Lib.hid hkb
  clear hkb
  go_enter Tryd.func36, Tryd.ntmps36
  go_wp2_with fail
  refine wp_loop_rounds 1 ?_
  rw [rounds_succ]
  go_wp2_with fail
  go_ret
  exact ⟨_, rfl, HKB.out, below_two (below_alloc _ _) (below_alloc _ _)⟩
theorem pmWrite_no (A : Option Addr) (c : Nat) (w : World) (ad : Addr) (hg0 : w.cell? ⟨6, 0, none⟩ = some (.iface 135 (.pointer (some ad)))) :
    Calls Tryd.prog 22 #[.agg (extPm A 0 c)] w fun e w' => e = .returned (.tuple #[.string (S []), .bool false]) ∧ Below w.heap.size w w' := by
  obtain ⟨cs, hcs⟩ : ∃ cs, extPm A 0 c = cs := ⟨_, rfl⟩
  have HM := Lib.hid (fun w => makePm_nil A c cs (by rw [← hcs]; rfl) w)
  have HG := Lib.hid hg0
  have hi : (Tryd.prog.info? 34).map (·.size) = some cs.size := by rw [← hcs]; exact extInfo
  rw [hcs]
  clear hcs hg0
  go_enter Tryd.func22, Tryd.ntmps22
  have hg := heap_alloc_new w (.cells cs 34)
  go_wp2_with (with_reducible refine wpList_load_row rfl 34 (.tmp 1) rfl w.heap.size (by with_unfolding_all rfl) 34 cs (0, 0) _ hg Tryd.underlying34 (by with_unfolding_all rfl) hi ?_)
  clear hi hg
  go_wp2_with fail
  refine (HM.out _).mono ?_
  rintro e w1 ⟨g, rfl, hk, hb1⟩
  have HCC := Lib.hid (marshalPm_no g 0 none w1 hk ad (keep_of_below (below_two (below_alloc w _) hb1) _ _ HG.out))
  have HB1 := Lib.hid (below_two (below_alloc w _) hb1)
  clear hk hb1 HM
  go_wp2_with fail
  refine HCC.out.mono ?_
  rintro e w2 ⟨ad2, rfl, hb2⟩
  have HB2 := Lib.hid (below_two HB1.out hb2)
  clear hb2
  go_wp2_with fail
  refine (pmText_no _ _ _ _ _ _).mono ?_
  rintro e w3 ⟨rfl, rfl⟩
  go_wp2_with fail
  go_ret2
  exact ⟨rfl, HB2.out⟩
theorem pmWrite_ok (b o n c : Nat) (zs : List Nat) (hl : zs.length = n) (h0 : 0 < n) (hn : n ≤ 255) (hz : ∀ z ∈ zs, z < 256) (w : World) (hr : Rd w (some ⟨b, o, none⟩) (zv zs)) :
    Calls Tryd.prog 22 #[.agg (extPm (some ⟨b, o, none⟩) n c)] w fun e w' => ∃ m, e = .returned (.tuple #[.string (S m), .bool true]) ∧ Below w.heap.size w w' := by
  obtain ⟨cs, hcs⟩ : ∃ cs, extPm (some ⟨b, o, none⟩) n c = cs := ⟨_, rfl⟩
  have HM := Lib.hid (makePm_any b o n c zs hl hn cs (by rw [← hcs]; rfl) (w.alloc (.cells cs 34)) (hr.keep (below_alloc _ _)))
  have HC := Lib.hid (fun g ra c w hk hr hra => marshalPm_any g ra n c zs hl h0 hn hz w hk hr hra)
  have HL := Lib.hid hl
  have H0 := Lib.hid h0
  have hi : (Tryd.prog.info? 34).map (·.size) = some cs.size := by rw [← hcs]; exact extInfo
  rw [hcs]
  clear hl h0 hn hz hr hcs
  go_enter Tryd.func22, Tryd.ntmps22
  have hg := heap_alloc_new w (.cells cs 34)
  go_wp2_with (with_reducible refine wpList_load_row rfl 34 (.tmp 1) rfl w.heap.size (by with_unfolding_all rfl) 34 cs (0, 0) _ hg Tryd.underlying34 (by with_unfolding_all rfl) hi ?_)
  clear hi hg
  go_wp2_with fail
  refine HM.out.mono ?_
  rintro e w1 ⟨g, A', c', rfl, hk, hrr, hlo, hhi, hb1⟩
  obtain ⟨ra, rfl⟩ : ∃ ra, A' = some ⟨ra, 0, none⟩ := by
    rcases hhi with rfl | ⟨a, h, _⟩
    · rcases hrr with h | ⟨_, _, h, _⟩
      · have := congrArg List.length h
        rw [vs_length, flat1_len, HL.out] at this
        simp at this
        have := H0.out
        omega
      · cases h
    · exact ⟨a, h⟩
  have HCC := Lib.hid (HC.out g ra c' w1 hk hrr (hlo ra rfl))
  have HB1 := Lib.hid (below_two (below_alloc w _) hb1)
  clear hk hrr hlo hhi hb1 HM HC
  go_wp2_with fail
  refine HCC.out.mono ?_
  rintro e w2 ⟨A2, n2, c2, m, rfl, hn', hr2, hb2⟩
  have HT := Lib.hid (text_any A2 n2 c2 _ hn' w2 hr2)
  have HB2 := Lib.hid (below_two HB1.out hb2)
  clear hn' hr2 hb2
  go_wp2_with fail
  refine HT.out.mono ?_
  rintro e w3 ⟨rfl, rfl⟩
  go_wp2_with fail
  go_ret2
  exact ⟨_, rfl, HB2.out⟩
theorem pmr_big (A : Option Addr) (n c : Nat) (h1 : decide ((2147483647 : Int) < n) = true) (w : World) :
    Calls Tryd.prog 7 #[.slice A n c] w fun e w' => e = .returned (.bool true) ∧ Below w.heap.size w w' := by
  go_enter Tryd.func7, Tryd.ntmps7
  go_wp2_with fail
  go_ret
  exact ⟨rfl, Below.refl _ _⟩
theorem pmr_long (A : Option Addr) (n c : Nat) (h1 : decide ((2147483647 : Int) < n) = false) (h2 : decide ((255 : Int) < n) = true) (h2' : 255 < n) (w : World) :
    Calls Tryd.prog 7 #[.slice A n c] w fun e w' => e = .returned (.bool true) ∧ Below w.heap.size w w' := by
  go_enter Tryd.func7, Tryd.ntmps7
  go_wp2_with fail
  go_ret
  exact ⟨rfl, Below.refl _ _⟩
set_option maxHeartbeats 2000000 in
theorem pmr_nil (A : Option Addr) (c : Nat) (w : World) (ad0 ad1 : Addr) (hg0 : w.cell? ⟨6, 0, none⟩ = some (.iface 135 (.pointer (some ad0)))) (hg1 : w.cell? ⟨9, 0, none⟩ = some (.iface 135 (.pointer (some ad1)))) :
    Calls Tryd.prog 7 #[.slice A 0 c] w fun e w' => e = .returned (.bool true) ∧ Below w.heap.size w w' := by
  have HW := Lib.hid (pmWrite_no A c w ad0 hg0)
  have HV : Hid (∀ w, Calls Tryd.prog 13 #[.string (S []), .int .i64 1] w fun e w' => e = .returned (.string (S [0])) ∧ Below w.heap.size w w') := Lib.hid (fun w => vec_any 1 (by omega) [] (by simp) w)
  have HF : Hid (∀ w, Calls Tryd.prog 12 #[.int .u16 45, .string (S [0])] w fun e w' => e = .returned (.string (S [0, 45, 0, 1, 0])) ∧ Below w.heap.size w w') := Lib.hid (fun w => framedExt_any 45 (by omega) [0] (by simp) w)
  have HR := Lib.hid (fun w hg => pskmRead_empty [0, 45, 0, 1, 0] rfl w ad1 hg)
  have HG := Lib.hid hg1
  unfold extPm at HW
  clear hg0 hg1
  go_enter Tryd.func7, Tryd.ntmps7
  go_wp2_with fail
  refine HW.out.mono ?_
  rintro e w1 ⟨rfl, hb1⟩
  have HB1 := Lib.hid hb1
  clear hb1 HW
  go_wp2_with fail
  refine (nums_nil A c 1 w1).mono ?_
  rintro e w2 ⟨rfl, hb2⟩
  have HB2 := Lib.hid (below_two HB1.out hb2)
  clear hb2
  go_wp2_with fail
  refine (HV.out w2).mono ?_
  rintro e w3 ⟨rfl, hb3⟩
  have HB3 := Lib.hid (below_two HB2.out hb3)
  clear hb3
  go_wp2_with fail
  refine (HF.out w3).mono ?_
  rintro e w4 ⟨rfl, hb4⟩
  have HB4 := Lib.hid (below_two HB3.out hb4)
  clear hb4
  go_wp2_with fail
  refine (HR.out w4 (keep_of_below HB4.out _ _ HG.out)).mono ?_
  rintro e w5 ⟨rfl, hb5⟩
  have HB5 := Lib.hid (below_two HB4.out hb5)
  clear hb5
  go_wp2_with (with_reducible refine Held.store 34 ?_)
  refine held_store_new (cells := zeroExt) extInfo rfl rfl rfl (by simp [zeroExt, Value.oneCell']) fun w9 _ hb9 _ => ?_
  have HB9 := Lib.hid (below_two HB5.out hb9)
  clear hb9
  go_wp2_with fail
  go_ret
  exact ⟨rfl, HB9.out⟩
theorem pmr_notall (b o n c : Nat) (zs : List Nat) (hl : zs.length = n) (h0 : 0 < n) (h1 : decide ((2147483647 : Int) < n) = false) (h2 : n ≤ 255) (hall : zs.all ([0, 1].contains ·) = false) (w : World) (hr : Rd w (some ⟨b, o, none⟩) (zv zs)) :
    Calls Tryd.prog 7 #[.slice (some ⟨b, o, none⟩) n c] w fun e w' => e = .returned (.bool true) ∧ Below w.heap.size w w' := by
  have t2 : decide ((255 : Int) < n) = false := by simp; omega
  have t2' : ¬ 255 < n := by omega
  have t0 : decide ((0 : Int) < n) = true := by simp; omega
  have t0' : 0 < n := h0
  have HA := Lib.hid (all_any b o n c w.heap.size 0 2 2 zs [0, 1] hl (by omega) rfl (by omega) h0 (w.alloc (.cells #[.int .u16 0, .int .u16 1] 24)) (hr.keep (below_alloc _ _)) (rd_new w _ _))
  clear hl hr h0 h2
  go_enter Tryd.func7, Tryd.ntmps7
  go_wp2_with fail
  refine HA.out.mono ?_
  rintro e w1 ⟨rfl, rfl⟩
  rw [hall]
  go_wp2_with fail
  go_ret
  exact ⟨rfl, below_alloc _ _⟩
set_option maxHeartbeats 2000000 in
theorem pmr_any (b o n c : Nat) (zs : List Nat) (hl : zs.length = n) (h0 : 0 < n) (h1 : decide ((2147483647 : Int) < n) = false) (h2 : n ≤ 255) (hall : zs.all ([0, 1].contains ·) = true) (w : World) (hr : Rd w (some ⟨b, o, none⟩) (zv zs)) :
    Calls Tryd.prog 7 #[.slice (some ⟨b, o, none⟩) n c] w fun e w' => e = .returned (.bool true) ∧ Below w.heap.size w w' := by
  have t2 : decide ((255 : Int) < n) = false := by simp; omega
  have t2' : ¬ 255 < n := by omega
  have t0 : decide ((0 : Int) < n) = true := by simp; omega
  have t0' : 0 < n := h0
  have HA := Lib.hid (all_any b o n c w.heap.size 0 2 2 zs [0, 1] hl (by omega) rfl (by omega) h0 (w.alloc (.cells #[.int .u16 0, .int .u16 1] 24)) (hr.keep (below_alloc _ _)) (rd_new w _ _))
  have hz : ∀ z ∈ zs, z < 256 := fun z hz => by
    have h := List.all_eq_true.1 hall z hz
    simp at h
    omega
  have HW := Lib.hid (fun w hr => pmWrite_ok b o n c zs hl h0 h2 hz w hr)
  have HNM := Lib.hid (fun w hr => nums_any b o n c 1 zs hl (by omega) (by omega) (fun z h => by have := hz z h; omega) w hr)
  have hfl : (flat 1 zs).length = n := by rw [flat1_len, hl]
  have HV := Lib.hid (fun w => vec_any 1 (by omega) (flat 1 zs) (by omega) w)
  have HF := Lib.hid (fun w => framedExt_any 45 (by omega) (be 1 (flat 1 zs).length ++ flat 1 zs) (by rw [List.length_append, be_length]; omega) w)
  obtain ⟨y1, he1, hy1⟩ := be1_part (flat 1 zs).length (by omega)
  obtain ⟨x, y, he2, hxy⟩ := be2_parts ((flat 1 zs).length + 1) (by omega)
  have hxx : be 2 45 ++ (be 2 (be 1 (flat 1 zs).length ++ flat 1 zs).length ++ (be 1 (flat 1 zs).length ++ flat 1 zs)) = 0 :: 45 :: x :: y :: y1 :: flat 1 zs := by
    have e : (be 1 (flat 1 zs).length ++ flat 1 zs).length = (flat 1 zs).length + 1 := by rw [List.length_append, be_length]; omega
    rw [e, he2, he1]
    rfl
  obtain ⟨m0, hm0⟩ : ∃ m0, be 2 45 ++ (be 2 (be 1 (flat 1 zs).length ++ flat 1 zs).length ++ (be 1 (flat 1 zs).length ++ flat 1 zs)) = m0 := ⟨_, rfl⟩
  rw [hm0] at HF hxx
  obtain ⟨v1, hv1⟩ : ∃ v1, be 1 (flat 1 zs).length ++ flat 1 zs = v1 := ⟨_, rfl⟩
  rw [hv1] at HF HV
  have HR := Lib.hid (fun w => pskmRead_ok m0 (flat 1 zs) x y y1 hxx hxy hy1 (by omega) w)
  rw [hfl] at HR
  obtain ⟨q0, hq0⟩ : ∃ q0, flat 1 zs = q0 := ⟨_, rfl⟩
  rw [hq0] at HNM HV
  have HZR := Lib.hid hr
  unfold extPm at HW
  clear hl hr h0 h2 hz hfl he1 hy1 he2 hxy hxx hm0 hv1 hq0
  go_enter Tryd.func7, Tryd.ntmps7
  go_wp2_with fail
  refine HA.out.mono ?_
  rintro e w1 ⟨rfl, rfl⟩
  rw [hall]
  go_wp2_with fail
  refine (HW.out _ (HZR.out.keep (below_alloc _ _))).mono ?_
  rintro e w2 ⟨m, rfl, hb2⟩
  have HB2 := Lib.hid (below_two (below_alloc w _) hb2)
  clear hb2 HW HA
  go_wp2_with fail
  refine (HNM.out w2 (HZR.out.keep HB2.out)).mono ?_
  rintro e w3 ⟨rfl, hb3⟩
  have HB3 := Lib.hid (below_two HB2.out hb3)
  clear hb3
  go_wp2_with fail
  refine (HV.out w3).mono ?_
  rintro e w4 ⟨rfl, hb4⟩
  have HB4 := Lib.hid (below_two HB3.out hb4)
  clear hb4
  go_wp2_with fail
  refine (HF.out w4).mono ?_
  rintro e w5 ⟨rfl, hb5⟩
  have HB5 := Lib.hid (below_two HB4.out hb5)
  clear hb5
  go_wp2_with fail
  refine (HR.out w5).mono ?_
  rintro e w6 ⟨A', c', rfl, hb6⟩
  have HB6 := Lib.hid (below_two HB5.out hb6)
  clear hb6
  go_wp2_with (with_reducible refine Held.store 34 ?_)
  refine held_store_new (cells := pmMsg A' n c') extInfo rfl rfl rfl (by simp [pmMsg, Value.oneCell']) fun w9 _ hb9 _ => ?_
  have HB9 := Lib.hid (below_two HB6.out hb9)
  clear hb9
  go_wp2_with fail
  go_ret
  exact ⟨by simp, HB9.out⟩
theorem pmr_row (A : Option Addr) (n c : Nat) (z : List Int) (hz : z.length = n) (hnc : n ≤ c) (w : World) (hr : Rd w A (z.map (Value.int .u16))) (hw : ∀ v ∈ z, (Lit.int .u16 v).wf = true) {p q r : Prop} (ad0 : Addr) (g0 : p) (ad1 : Addr) (g1 : q) (ad2 : Addr) (g2 : r) (adF : Addr) (hgF : w.cell? ⟨9, 0, none⟩ = some (.iface 135 (.pointer (some adF)))) (adN : Addr) (hgN : w.cell? ⟨6, 0, none⟩ = some (.iface 135 (.pointer (some adN)))) :
    Calls Tryd.prog 7 #[.slice A n c] w fun e w' => e = .returned (.bool true) ∧ Below w.heap.size w w' := by
  by_cases h1 : (2147483647 : Int) < n
  · exact pmr_big A n c (by simpa using h1) w
  have h1' : decide ((2147483647 : Int) < n) = false := by simpa using h1
  by_cases h2 : 255 < n
  · exact pmr_long A n c h1' (by simp; omega) h2 w
  by_cases h0 : 0 < n
  case neg =>
    obtain rfl : n = 0 := by omega
    exact pmr_nil A c w adN adF hgN hgF
  obtain ⟨zs, hzl, hzv⟩ : ∃ zs : List Nat, zs.length = n ∧ zv zs = z.map (Value.int .u16) := by
    refine ⟨z.map Int.toNat, by simpa using hz, ?_⟩
    unfold zv
    rw [List.map_map]
    refine List.map_congr_left fun v hv => ?_
    obtain ⟨k, rfl, _⟩ := nat_u16 (hw v hv)
    rfl
  rw [← hzv] at hr
  rcases hr with hr | ⟨b, o, rfl, hr⟩
  · have := congrArg List.length hr
    have h0' : zs.length = 0 := by simpa [zv] using this
    omega
  have hr : Rd w (some ⟨b, o, none⟩) (zv zs) := .inr ⟨b, o, rfl, hr⟩
  cases hall : zs.all ([0, 1].contains ·) with
  | false => exact pmr_notall b o n c zs hzl h0 h1' (by omega) hall w hr
  | true => exact pmr_any b o n c zs hzl h0 h1' (by omega) hall w hr
end Go.Proofs.YtgnkfpfgolhokaaDoor
