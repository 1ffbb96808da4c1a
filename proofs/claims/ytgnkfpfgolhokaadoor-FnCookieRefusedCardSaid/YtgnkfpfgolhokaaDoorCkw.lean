/- Walks: a cookie, written or refused. -/
import Derived.Test.YtgnkfpfgolhokaaDoorPskS
namespace Go.Proofs.YtgnkfpfgolhokaaDoor
open Go.RowKit Go.Cv
set_option maxRecDepth 100000
set_option linter.unusedVariables false
def extCk (l : List UInt8) : Array Value := #[.int .u16 44, .string (S l), .slice none 0 0, .slice none 0 0, .slice none 0 0, .bool false, .int .u32 0, .bool false, .slice none 0 0, .slice none 0 0, .slice none 0 0, .slice none 0 0, .slice none 0 0]
theorem makeCk_any (l : List UInt8) (hl : l.length ≤ maxLen) (cs : Array Value) (h1 : cs[1]? = some (.string (S l))) (w : World) :
    Calls Tryd.prog 26 #[.agg cs] w fun e w' => ∃ b ra c, e = .returned (.pointer (some ⟨b, 0, none⟩)) ∧ Blk w' b 79 #[.slice (some ⟨ra, 0, none⟩) l.length c] ∧ Rd w' (some ⟨ra, 0, none⟩) (vs l) ∧ ra < w'.heap.size ∧ Below w.heap.size w w' := by
  have HL := Lib.hid hl
  clear hl
  go_enter Tryd.func26, Tryd.ntmps26
  go_wp2_with fail
  refine upon_conv_sb 9 25 5 Tryd.underlying9 Tryd.underlying25 Tryd.underlying5 l HL.out ?_
  intro c w1 hown hb hlt
  have hr := hown.rd
  simp only [World.size_alloc] at hr
  clear hown
  go_wp2_with fail
  go_ret
  exact ⟨_, _, c, rfl, Blk.new _ _ _, hr.keep (below_alloc _ _), by have := hb.size; simp only [World.size_alloc] at this ⊢; omega, below_two (below_two (below_alloc _ _) hb) (below_alloc _ _)⟩
theorem ckType_any (v : Array Value) (w : World) : Calls Tryd.prog 41 #[.agg v] w fun e w' => e = .returned (.int .u16 44) ∧ Below w.heap.size w w' := by
  go_enter Tryd.func41, Tryd.ntmps41
  go_wp2_with fail
  go_ret
  exact ⟨rfl, by first | exact below_alloc _ _ | exact Below.refl _ _⟩
theorem ckFill2 (P0 : Nat → Prop) (w0 : World) (x b ra n c icb : Nat) (l : List UInt8) (hn : l.length = n) (hx : w0.cell? ⟨x, 0, none⟩ = some (.pointer (some ⟨b, 0, none⟩))) (hb : w0.cell? ⟨b, 0, none⟩ = some (.slice (some ⟨ra, 0, none⟩) n c)) (hr : Rd w0 (some ⟨ra, 0, none⟩) (vs l)) (hPx : P0 x) (hPb : P0 b) (hPr : P0 ra) :
    Fills P0 w0 44 #[.pointer (some ⟨x, 0, none⟩)] icb l := by
  intro w1 P q off pl k hsub hk hic hPi h0 hs hbp
  have h1 := hk.cell hx hPx
  have h2 := hk.cell hb hPb
  have HA := Lib.hid (addPBytes_any P q (.pointer (some ⟨icb, 0, none⟩)) off pl k l (some ⟨ra, 0, none⟩) n c hn (by omega) (by omega) w1 hbp (hr.kp hk hPr))
  clear hx hb hr hPx hPb hPr hsub hk hic hPi h0 hs hbp
  show Calls Tryd.prog 44 #[.pointer (some ⟨q, 0, none⟩), .pointer (some ⟨x, 0, none⟩)] w1 _
  go_enter Tryd.func44, Tryd.ntmps44
  go_wp2_with fail
  refine HA.out.mono ?_
  rintro e w2 ⟨rfl, h3, h4⟩
  go_wp2_with fail
  go_end0
  exact ⟨rfl, h3, h4⟩
theorem ckFill1 (P0 : Nat → Prop) (w0 : World) (x b ra n c icb : Nat) (l : List UInt8) (hn : l.length = n) (h6 : n < 65536) (hx : w0.cell? ⟨x, 0, none⟩ = some (.pointer (some ⟨b, 0, none⟩))) (hb : w0.cell? ⟨b, 0, none⟩ = some (.slice (some ⟨ra, 0, none⟩) n c)) (hr : Rd w0 (some ⟨ra, 0, none⟩) (vs l)) (hPx : P0 x) (hPb : P0 b) (hPr : P0 ra) :
    Fills P0 w0 43 #[.pointer (some ⟨x, 0, none⟩)] icb (be 2 l.length ++ l) := by
  intro w1 P q off pl k hsub hk hic hPi h0 hs hbp
  rw [List.length_append, be_length] at hs
  have hmf : ∀ (fn : Fn) (first cap : Array Value) (w : World), (Instr.makeFunc fn first cap).run Tryd.prog w = .ok (.func fn first cap) w := fun _ _ _ _ => rfl
  have HA := Lib.hid (alp16In_any P w1 44 #[.pointer (some ⟨x, 0, none⟩)] q icb off pl k l (enters Tryd.func44 (by kernel_rfl) rfl) (by omega) (by omega) hbp hic hPi
    (ckFill2 P w1 x b ra n c icb l hn (hk.cell hx hPx) (hk.cell hb hPb) (hr.kp hk hPr) (hsub _ hPx) (hsub _ hPb) (hsub _ hPr)))
  clear hx hb hr hPx hPb hPr hsub hk hic hPi h0 hs hbp h6 hn
  show Calls Tryd.prog 43 #[.pointer (some ⟨q, 0, none⟩), .pointer (some ⟨x, 0, none⟩)] w1 _
  go_enter Tryd.func43, Tryd.ntmps43
  go_wp2_with fail
  refine HA.out.mono ?_
  rintro e w2 ⟨rfl, h3, h4⟩
  go_wp2_with fail
  go_end0
  exact ⟨rfl, h3, h4⟩
set_option maxHeartbeats 1000000 in
theorem marshalCk_any (b ra n c : Nat) (l : List UInt8) (hn : l.length = n) (h0 : 0 < n) (h6 : n ≤ 65533) (w : World) (hk : Blk w b 79 #[.slice (some ⟨ra, 0, none⟩) n c]) (hr : Rd w (some ⟨ra, 0, none⟩) (vs l)) (hra : ra < w.heap.size) :
    Calls Tryd.prog 27 #[.pointer (some ⟨b, 0, none⟩)] w fun e w' => ∃ A' n' c' m, e = .returned (.tuple #[.slice A' n' c', .nilIface]) ∧ List.length m = n' ∧ Rd w' A' (vs m) ∧ Below w.heap.size w w' := by
  have hmf : ∀ (fn : Fn) (first cap : Array Value) (w : World), (Instr.makeFunc fn first cap).run Tryd.prog w = .ok (.func fn first cap) w := fun _ _ _ _ => rfl
  have hps := hk.lt
  have c0 := hk.cell 0
  simp at c0
  have t1 : ((n : Int) == 0) = false := by simp; omega
  have t1' : ¬ n = 0 := by omega
  have t2 : decide ((65533 : Int) < n) = false := by simp; omega
  have t2' : ¬ 65533 < n := by omega
  have HK := Lib.hid hk
  have HR := Lib.hid hr
  have HRA := Lib.hid hra
  have HN := Lib.hid hn
  have H6 := Lib.hid h6
  clear hk hr hra hn h0 h6
  go_enter Tryd.func27, Tryd.ntmps27
  go_wp2_with fail
  have hba := below_alloc w (.cells #[.pointer (some ⟨b, 0, none⟩)] 57)
  have hsz := World.size_alloc w (.cells #[.pointer (some ⟨b, 0, none⟩)] 57)
  have hbp := BP.start (w.alloc (.cells #[.pointer (some ⟨b, 0, none⟩)] 57)) (fun k => k < w.heap.size + 1) (fun k hk => by rw [hsz]; exact hk)
  have hx := ((Blk.new w 57 #[.pointer (some ⟨b, 0, none⟩)]).alloc (.cells #[.nilIface, .slice none 0 0, .bool false, .pointer none, .int .i64 0, .int .i64 0, .bool false, .pointer none] 83)).cell 0
  replace hx := hx.trans (rfl : _ = some (Value.pointer (some ⟨b, 0, none⟩)))
  have hb2 : Below w.heap.size w ((w.alloc (.cells #[.pointer (some ⟨b, 0, none⟩)] 57)).alloc (.cells #[.nilIface, .slice none 0 0, .bool false, .pointer none, .int .i64 0, .int .i64 0, .bool false, .pointer none] 83)) := below_two hba (below_alloc _ _)
  rw [hsz] at hbp
  clear c0 hba hsz
  generalize (w.alloc (.cells #[.pointer (some ⟨b, 0, none⟩)] 57)).alloc (.cells #[.nilIface, .slice none 0 0, .bool false, .pointer none, .int .i64 0, .int .i64 0, .bool false, .pointer none] 83) = W at *
  refine (ckType_any _ W).mono ?_
  rintro e w3 ⟨rfl, hb3⟩
  have HA := Lib.hid (addP16_any (fun k => k < w.heap.size + 1) (w.heap.size + 1) (.pointer none) 0 0 [] 44 (by simp) w3 (hbp.keep hb3))
  have HB3 := Lib.hid (below_two hb2 hb3)
  have HX3 := Lib.hid (keep_of_below hb3 _ _ hx)
  clear hbp hb2 hb3
  go_wp2_with fail
  refine HA.out.mono ?_
  rintro e w4 ⟨rfl, hb4, hk4⟩
  have hx4 := hk4.cell HX3.out (Nat.lt_succ_self _)
  have hkb := (HK.out.keep HB3.out).kp hk4 (Nat.lt_succ_of_lt hps)
  have c0 := hkb.cell 0
  simp at c0
  have HAL := Lib.hid (alp16Top_any (fun k => k < w.heap.size + 1) w4 43 #[.pointer (some ⟨w.heap.size, 0, none⟩)] (w.heap.size + 1) 0 0 (be 2 44) (be 2 l.length ++ l) (enters Tryd.func43 (by kernel_rfl) rfl) (by rw [List.length_append, be_length, HN.out]; have := H6.out; omega) (by rw [List.length_append, be_length, be_length, HN.out]; have := H6.out; omega) (by simpa using hb4) (fun icb => ckFill1 _ w4 w.heap.size b ra n c icb l HN.out (by have := H6.out; omega) hx4 c0 ((HR.out.keep HB3.out).kp hk4 (Nat.lt_succ_of_lt HRA.out)) (Nat.lt_succ_self _) (Nat.lt_succ_of_lt hps) (Nat.lt_succ_of_lt HRA.out)))
  have HK4 : Hid (Kp (fun k => k < w.heap.size + 1) w w4) := Lib.hid ((Kp.below HB3.out).trans hk4)
  clear hb4 hk4 hkb HA
  go_wp2_with fail
  refine HAL.out.mono ?_
  rintro e w5 ⟨rfl, icb, hb5, hk5⟩
  have HBY := Lib.hid (bytesP_any _ (w.heap.size + 1) _ _ _ (by rw [List.length_append, be_length]; omega) w5 hb5)
  have HB5 : Hid (Below w.heap.size w w5) := Lib.hid ((HK4.out.trans hk5).toBelow (Nat.le_refl _) (fun k hk => Nat.lt_succ_of_lt hk))
  clear hb5 hk5 HAL
  go_wp2_with fail
  refine HBY.out.mono ?_
  rintro e w6 ⟨A', n', c', rfl, h1, h2, h3⟩
  have H1 := Lib.hid h1
  have H2 := Lib.hid h2
  have H3 := Lib.hid h3
  clear h1 h2 h3
  go_wp2_with fail
  go_ret2
  exact ⟨_, _, _, _, rfl, H1.out, H2.out, below_two HB5.out H3.out⟩
theorem marshalCk_no (b ra n c : Nat) (hbad : n = 0 ∨ 65533 < n) (w : World) (hk : Blk w b 79 #[.slice (some ⟨ra, 0, none⟩) n c]) (ad : Addr) (hg : w.cell? ⟨0, 0, none⟩ = some (.iface 135 (.pointer (some ad)))) :
    Calls Tryd.prog 27 #[.pointer (some ⟨b, 0, none⟩)] w fun e w' => ∃ ad, e = .returned (.tuple #[.slice none 0 0, .iface 135 (.pointer (some ad))]) ∧ Below w.heap.size w w' := by
  have hps := hk.lt
  have c0 := hk.cell 0
  simp at c0
  have hgs := block_lt hg
  simp at hgs
  clear hk
  rcases hbad with rfl | hbad
  · go_enter Tryd.func27, Tryd.ntmps27
    go_wp2_with fail
    go_quiet (fail)
    go_wp2_with fail
    go_ret2
    exact ⟨ad, rfl, below_drewN (below_alloc _ _) nq⟩
  · have t1 : ((n : Int) == 0) = false := by simp; omega
    have t1' : ¬ n = 0 := by omega
    have t2 : decide ((65533 : Int) < n) = true := by simp; omega
    have t2' : 65533 < n := by omega
    clear hbad
    go_enter Tryd.func27, Tryd.ntmps27
    go_wp2_with fail
    go_quiet (fail)
    go_wp2_with fail
    go_ret2
    exact ⟨ad, rfl, below_drewN (below_alloc _ _) nq⟩
end Go.Proofs.YtgnkfpfgolhokaaDoor
