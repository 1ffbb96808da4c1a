/- Walks: KeyShare.Marshal with a server's share. -/
import Derived.Test.YtgnkfpfgolhokaaDoorKsw
namespace Go.Proofs.YtgnkfpfgolhokaaDoor
open Go.RowKit Go.Cv
set_option maxRecDepth 100000
set_option linter.unusedVariables false
theorem ksFill (P0 : Nat → Prop) (w0 : World) (xh xk xs b en g ra n c icb : Nat) (l : List UInt8) (hn : l.length = n) (h6 : n ≤ 5000) (hxh : w0.cell? ⟨xh, 0, none⟩ = some (.bool false)) (hxk : w0.cell? ⟨xk, 0, none⟩ = some (.pointer (some ⟨b, 0, none⟩))) (hxs : w0.cell? ⟨xs, 0, none⟩ = some (.bool true))
    (hb : Blk w0 b 113 #[.slice none 0 0, .pointer (some ⟨en, 0, none⟩), .pointer none]) (he : Blk w0 en 116 (ksEntry g ra n c)) (hr : Rd w0 (some ⟨ra, 0, none⟩) (vs l)) (p1 : P0 xh) (p2 : P0 xk) (p3 : P0 xs) (p4 : P0 b) (p5 : P0 en) (p6 : P0 ra) :
    Fills P0 w0 64 #[.pointer (some ⟨xh, 0, none⟩), .pointer (some ⟨xk, 0, none⟩), .pointer (some ⟨xs, 0, none⟩)] icb (be 2 g ++ (be 2 n ++ l)) := by
  intro w1 P q off pl k hsub hk hic hPi h0 hs hbp
  rw [List.length_append, List.length_append, be_length, be_length, hn] at hs
  have a1 := hk.cell hxh p1
  have a2 := hk.cell hxk p2
  have a3 := hk.cell hxs p3
  have a4 := ((hb.kp hk p4).cell 1).trans (rfl : _ = some (Value.pointer (some ⟨en, 0, none⟩)))
  have a5 := ((he.kp hk p5).cell 0).trans (rfl : _ = some (Value.int .u16 (g : Int)))
  have a6 := ((he.kp hk p5).cell 1).trans (rfl : _ = some (Value.slice (some ⟨ra, 0, none⟩) n c))
  have HA := Lib.hid (addEntry_any P q icb off pl g ra n c k l hn h6 (by omega) w1 hbp hic hPi (hsub _ p6) (hr.kp hk p6))
  clear hxh hxk hxs hb he hr p1 p2 p3 p4 p5 p6 hsub hk hic hPi h0 hs hbp hn h6
  unfold ksEntry at HA
  show Calls Tryd.prog 64 #[.pointer (some ⟨q, 0, none⟩), .pointer (some ⟨xh, 0, none⟩), .pointer (some ⟨xk, 0, none⟩), .pointer (some ⟨xs, 0, none⟩)] w1 _
  go_enter Tryd.func64, Tryd.ntmps64
  go_wp2_with fail
  refine HA.out.mono ?_
  rintro e w2 ⟨rfl, h3, h4⟩
  go_wp2_with fail
  first | go_end0 | refine bodyPost_ret (results_none rfl _ _ _) rfl ?_
  exact ⟨rfl, h3, h4⟩
theorem ksType_any (v : Array Value) (w : World) : Calls Tryd.prog 63 #[.agg v] w fun e w' => e = .returned (.int .u16 51) ∧ Below w.heap.size w w' := by
  go_enter Tryd.func63, Tryd.ntmps63
  go_wp2_with fail
  go_ret
  exact ⟨rfl, by first | exact below_alloc _ _ | exact Below.refl _ _⟩
theorem ctx_any (w : World) : Calls Tryd.prog 62 #[.bool false, .bool true, .bool false] w fun e w' => e = .returned (.bool false) ∧ w = w' := by
  go_enter Tryd.func62, Tryd.ntmps62
  go_wp2_with fail
  go_ret
  exact ⟨rfl, rfl⟩
def ksOut (g n : Nat) (l : List UInt8) : List UInt8 := be 2 51 ++ (be 2 (be 2 g ++ (be 2 n ++ l)).length ++ (be 2 g ++ (be 2 n ++ l)))
set_option maxHeartbeats 2000000 in
theorem marshalKs_any (b en g ra n c : Nat) (l : List UInt8) (hn : l.length = n) (h0 : 0 < n) (h6 : n ≤ 5000) (w : World) (hk : Blk w b 113 #[.slice none 0 0, .pointer (some ⟨en, 0, none⟩), .pointer none]) (he : Blk w en 116 (ksEntry g ra n c)) (hr : Rd w (some ⟨ra, 0, none⟩) (vs l)) (hra : ra < w.heap.size) :
    Calls Tryd.prog 35 #[.pointer (some ⟨b, 0, none⟩)] w fun e w' => ∃ A' n' c', e = .returned (.tuple #[.slice A' n' c', .nilIface]) ∧ (ksOut g n l).length = n' ∧ Rd w' A' (vs (ksOut g n l)) ∧ Below w.heap.size w w' := by
  have hmf : ∀ (fn : Fn) (first cap : Array Value) (w : World), (Instr.makeFunc fn first cap).run Tryd.prog w = .ok (.func fn first cap) w := fun _ _ _ _ => rfl
  have hps := hk.lt
  have hes := he.lt
  have c0 := (hk.cell 0).trans (rfl : _ = some (Value.slice none 0 0))
  have c1 := (hk.cell 1).trans (rfl : _ = some (Value.pointer (some ⟨en, 0, none⟩)))
  have c2 := (hk.cell 2).trans (rfl : _ = some (Value.pointer none))
  have HK := Lib.hid hk
  have HE := Lib.hid he
  have HR := Lib.hid hr
  have HRA := Lib.hid hra
  have HN := Lib.hid hn
  have H0 := Lib.hid h0
  have H6 := Lib.hid h6
  clear hk he hr hra hn h0 h6
  go_enter Tryd.func35, Tryd.ntmps35
  go_wp2_with fail
  refine (ctx_any _).mono ?_
  rintro e w1 ⟨rfl, rfl⟩
  have hbW : Below w.heap.size w (((w.alloc (.cells #[.pointer (some ⟨b, 0, none⟩)] 69)).alloc (.cells #[.bool true] 4)).alloc (.cells #[.bool false] 4)) := below_two (below_two (below_alloc _ _) (below_alloc _ _)) (below_alloc _ _)
  have hxk := (((Blk.new w 69 #[.pointer (some ⟨b, 0, none⟩)]).alloc (.cells #[.bool true] 4)).alloc (.cells #[.bool false] 4)).cell 0
  replace hxk := hxk.trans (rfl : _ = some (Value.pointer (some ⟨b, 0, none⟩)))
  have hxs := ((Blk.new (w.alloc (.cells #[.pointer (some ⟨b, 0, none⟩)] 69)) 4 #[.bool true]).alloc (.cells #[.bool false] 4)).cell 0
  replace hxs := hxs.trans (rfl : _ = some (Value.bool true))
  have hxh := (Blk.new ((w.alloc (.cells #[.pointer (some ⟨b, 0, none⟩)] 69)).alloc (.cells #[.bool true] 4)) 4 #[.bool false]).cell 0
  replace hxh := hxh.trans (rfl : _ = some (Value.bool false))
  have hsz : (((w.alloc (.cells #[.pointer (some ⟨b, 0, none⟩)] 69)).alloc (.cells #[.bool true] 4)).alloc (.cells #[.bool false] 4)).heap.size = w.heap.size + 1 + 1 + 1 := by rw [World.size_alloc, World.size_alloc, World.size_alloc]
  rw [World.size_alloc] at hxs
  rw [World.size_alloc, World.size_alloc] at hxh
  generalize (((w.alloc (.cells #[.pointer (some ⟨b, 0, none⟩)] 69)).alloc (.cells #[.bool true] 4)).alloc (.cells #[.bool false] 4)) = W at *
  have d0 := keep_of_below hbW _ _ c0
  have d1 := keep_of_below hbW _ _ c1
  have d2 := keep_of_below hbW _ _ c2
  have hpsW : b < W.heap.size := Nat.lt_of_lt_of_le hps hbW.size
  have hbp := BP.start W (fun k => k < W.heap.size) (fun _ hk => hk)
  have HBW := Lib.hid hbW
  have HXK := Lib.hid hxk
  have HXS := Lib.hid hxs
  have HXH := Lib.hid hxh
  have HBP := Lib.hid hbp
  have HSZ := Lib.hid hsz
  have hx1 : w.heap.size < W.heap.size := by rw [hsz]; omega
  have hx2 : w.heap.size + 1 < W.heap.size := by rw [hsz]; omega
  have hx3 : w.heap.size + 1 + 1 < W.heap.size := by rw [hsz]; omega
  clear c0 c1 c2 hbp hbW hsz
  go_wp2_with fail
  refine (ksType_any _ _).mono ?_
  rintro e w3 ⟨rfl, hb3⟩
  have HA := Lib.hid (addP16_any (fun k => k < W.heap.size) W.heap.size (.pointer none) 0 0 [] 51 (by simp) w3 (HBP.out.keep hb3))
  have HB3 := Lib.hid (below_two (below_alloc W _) hb3)
  clear hb3 HBP hxk hxs hxh d0 d1 d2
  go_wp2_with fail
  refine HA.out.mono ?_
  rintro e w4 ⟨rfl, hb4, hk4⟩
  have HK4 : Hid (Kp (fun k => k < W.heap.size) W w4) := Lib.hid ((Kp.below HB3.out).trans hk4)
  have hpx : w.heap.size < W.heap.size ∧ w.heap.size + 1 < W.heap.size ∧ w.heap.size + 1 + 1 < W.heap.size := by rw [HSZ.out]; omega
  have hxk := HK4.out.cell HXK.out hpx.1
  have hxs := HK4.out.cell HXS.out hpx.2.1
  have hxh := HK4.out.cell HXH.out hpx.2.2
  have hkb := (HK.out.keep HBW.out).kp HK4.out hpsW
  have hke := (HE.out.keep HBW.out).kp HK4.out (Nat.lt_of_lt_of_le hes HBW.out.size)
  have hrr := (HR.out.keep HBW.out).kp HK4.out (Nat.lt_of_lt_of_le HRA.out HBW.out.size)
  have HAL := Lib.hid (alp16Top_any (fun k => k < W.heap.size) w4 64 #[.pointer (some ⟨w.heap.size + 1 + 1, 0, none⟩), .pointer (some ⟨w.heap.size, 0, none⟩), .pointer (some ⟨w.heap.size + 1, 0, none⟩)] W.heap.size 0 0 (be 2 51) (be 2 g ++ (be 2 n ++ l)) (enters Tryd.func64 (by kernel_rfl) rfl) (by rw [List.length_append, List.length_append, be_length, be_length, HN.out]; have := H6.out; omega) (by rw [List.length_append, List.length_append, be_length, be_length, be_length, HN.out]; have := H6.out; omega) (by simpa using hb4)
    (fun icb => ksFill _ w4 (w.heap.size + 1 + 1) w.heap.size (w.heap.size + 1) b en g ra n c icb l HN.out H6.out hxh hxk hxs hkb hke hrr hpx.2.2 hpx.1 hpx.2.1 hpsW (Nat.lt_of_lt_of_le hes HBW.out.size) (Nat.lt_of_lt_of_le HRA.out HBW.out.size)))
  have d0 := (hkb.cell 0).trans (rfl : _ = some (Value.slice none 0 0))
  have d1 := (hkb.cell 1).trans (rfl : _ = some (Value.pointer (some ⟨en, 0, none⟩)))
  have e1 := (hke.cell 1).trans (rfl : _ = some (Value.slice (some ⟨ra, 0, none⟩) n c))
  have t1 : ((n : Int) == 0) = false := by have := H0.out; simp; omega
  have t1' : ¬ n = 0 := by have := H0.out; omega
  have t2 : decide ((65535 : Int) < n) = false := by have := H6.out; simp; omega
  have t2' : ¬ 65535 < n := by have := H6.out; omega
  clear hb4 hk4 hkb hke hrr HA hpx
  go_wp2_with fail
  refine HAL.out.mono ?_
  rintro e w5 ⟨rfl, icb, hb5, hk5⟩
  have HBY := Lib.hid (bytesP_any _ W.heap.size _ _ _ (by rw [List.length_append, be_length]; omega) w5 hb5)
  have HB5 : Hid (Below w.heap.size w w5) := Lib.hid (below_two HBW.out ((HK4.out.trans hk5).toBelow (Nat.le_refl _) (fun k hk => hk)))
  clear hb5 hk5 HAL hxk hxs hxh d0 d1 e1
  go_wp2_with fail
  refine HBY.out.mono ?_
  rintro e w6 ⟨A', n', c', rfl, h1, h2, h3⟩
  have H1 := Lib.hid h1
  have H2 := Lib.hid h2
  have H3 := Lib.hid h3
  clear h1 h2 h3
  go_wp2_with fail
  go_ret2
  exact ⟨_, _, _, rfl, H1.out, H2.out, below_two HB5.out H3.out⟩
theorem ksWrite_any (g s c9 n : Nat) (l : List UInt8) (hn : l.length = n) (h0 : 0 < n) (h6 : n ≤ 5000) (w : World) (hs : Blk w s 44 (shRow g l)) :
    Calls Tryd.prog 19 #[.agg (extKs s c9)] w fun e w' => e = .returned (.tuple #[.string (S (ksOut g n l)), .bool true]) ∧ Below w.heap.size w w' := by
  obtain ⟨cs, hcs⟩ : ∃ cs, extKs s c9 = cs := ⟨_, rfl⟩
  have HM := Lib.hid (makeKs_any g s c9 l (by simp only [maxLen]; omega) cs (by rw [← hcs]; rfl) (by rw [← hcs]; rfl) (by rw [← hcs]; rfl) (w.alloc (.cells cs 34)) (hs.alloc _))
  have HC := Lib.hid (fun b en ra c w hk he hr hra => marshalKs_any b en g ra n c l hn h0 h6 w hk he hr hra)
  have HN := Lib.hid hn
  have hi : (Tryd.prog.info? 34).map (·.size) = some cs.size := by rw [← hcs]; exact extInfo
  rw [hcs]
  clear hn h0 h6 hs hcs
  go_enter Tryd.func19, Tryd.ntmps19
  have hg := heap_alloc_new w (.cells cs 34)
  go_wp2_with (with_reducible refine wpList_load_row rfl 34 (.tmp 1) rfl w.heap.size (by with_unfolding_all rfl) 34 cs (0, 0) _ hg Tryd.underlying34 (by with_unfolding_all rfl) hi ?_)
  clear hi hg
  go_wp2_with fail
  refine HM.out.mono ?_
  rintro e w1 ⟨b, en, ra, c, rfl, hk, he, hr, hra, hb1⟩
  rw [HN.out] at he
  have HCC := Lib.hid (HC.out b en ra c w1 hk he hr hra)
  have HB1 := Lib.hid (below_two (below_alloc w _) hb1)
  clear hk he hr hra hb1 HM HC
  go_wp2_with fail
  refine HCC.out.mono ?_
  rintro e w2 ⟨A', n', c', rfl, hn', hr2, hb2⟩
  have HT := Lib.hid (text_any A' n' c' _ hn' w2 hr2)
  have HB2 := Lib.hid (below_two HB1.out hb2)
  clear hn' hr2 hb2
  go_wp2_with fail
  refine HT.out.mono ?_
  rintro e w3 ⟨rfl, rfl⟩
  go_wp2_with fail
  go_ret2
  exact ⟨rfl, HB2.out⟩
end Go.Proofs.YtgnkfpfgolhokaaDoor
