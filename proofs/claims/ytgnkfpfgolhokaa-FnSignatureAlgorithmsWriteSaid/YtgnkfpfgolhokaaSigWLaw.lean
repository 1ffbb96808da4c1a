/- Walks: the law of signature schemes that are written. -/
import Derived.Test.YtgnkfpfgolhokaaSigW
import Derived.Test.YtgnkfpfgolhokaaRowPairs
namespace Go.Proofs.Ytgnkfpfgolhokaa
open Go.RowKit Go.Cv
set_option maxRecDepth 100000
set_option linter.unusedVariables false
def sgOut (zs : List (Nat × Nat)) : List UInt8 := be 2 13 ++ (be 2 (be 2 (flat 2 (codes zs)).length ++ flat 2 (codes zs)).length ++ (be 2 (flat 2 (codes zs)).length ++ flat 2 (codes zs)))
set_option maxHeartbeats 1000000 in
theorem marshalGen_any (a n c : Nat) (zs : List (Nat × Nat)) (hl : zs.length = n) (hn : n ≤ 1000) (h0 : 0 < n) (hz : Sch zs) (w : World) (hr : Rd w (some ⟨a, 0, none⟩) (pv zs)) :
    Calls Try.prog 18 #[.int .u16 13, .slice (some ⟨a, 0, none⟩) n c] w fun e w' => ∃ A' n' c', e = .returned (.tuple #[.slice A' n' c', .nilIface]) ∧ (sgOut zs).length = n' ∧ Rd w' A' (vs (sgOut zs)) ∧ Below w.heap.size w w' := by
  have hmf : ∀ (fn : Fn) (first cap : Array Value) (w : World), (Instr.makeFunc fn first cap).run Try.prog w = .ok (.func fn first cap) w := fun _ _ _ _ => rfl
  have hra : a < w.heap.size := by
    obtain ⟨p, hp⟩ : ∃ p, zs[0]? = some p := ⟨_, List.getElem?_eq_getElem (by rw [hl]; exact h0)⟩
    exact block_lt (pairCell hr 0 p.1 p.2 hp).1
  have HR := Lib.hid hr
  have HRA := Lib.hid hra
  have HL := Lib.hid hl
  have HN := Lib.hid hn
  have H0 := Lib.hid h0
  have HZ := Lib.hid hz
  clear hr hra hl hn h0 hz
  go_enter Try.func18, Try.ntmps18
  go_wp2_with fail
  have hba := below_alloc w (.cells #[.slice (some ⟨a, 0, none⟩) n c] 54)
  have hsz := World.size_alloc w (.cells #[.slice (some ⟨a, 0, none⟩) n c] 54)
  have hbp := sgStart (w.alloc (.cells #[.slice (some ⟨a, 0, none⟩) n c] 54)) (fun k => k < w.heap.size + 1) (fun k hk => by rw [hsz]; exact hk)
  have hx := ((Blk.new w 54 #[.slice (some ⟨a, 0, none⟩) n c]).alloc (.cells #[.nilIface, .slice none 0 0, .bool false, .pointer none, .int .i64 0, .int .i64 0, .bool false, .pointer none] 69)).cell 0
  replace hx := hx.trans (rfl : _ = some (Value.slice (some ⟨a, 0, none⟩) n c))
  have hb2 : Below w.heap.size w ((w.alloc (.cells #[.slice (some ⟨a, 0, none⟩) n c] 54)).alloc (.cells #[.nilIface, .slice none 0 0, .bool false, .pointer none, .int .i64 0, .int .i64 0, .bool false, .pointer none] 69)) := below_two hba (below_alloc _ _)
  rw [hsz] at hbp
  clear hba hsz
  generalize (w.alloc (.cells #[.slice (some ⟨a, 0, none⟩) n c] 54)).alloc (.cells #[.nilIface, .slice none 0 0, .bool false, .pointer none, .int .i64 0, .int .i64 0, .bool false, .pointer none] 69) = W at *
  refine (addP16_any (fun k => k < w.heap.size + 1) (w.heap.size + 1) (.pointer none) 0 0 [] 13 (by simp) W hbp).mono ?_
  rintro e w4 ⟨rfl, hb4, hk4⟩
  have hx4 := hk4.cell hx (Nat.lt_succ_self _)
  have HAL := Lib.hid (alp16Top_any (fun k => k < w.heap.size + 1) w4 23 #[.pointer (some ⟨w.heap.size, 0, none⟩)] (w.heap.size + 1) 0 0 (be 2 13) (be 2 (flat 2 (codes zs)).length ++ flat 2 (codes zs)) (sgEnters Try.func23 (by kernel_rfl) rfl) (by rw [List.length_append, be_length, codes_len, HL.out]; have := HN.out; omega) (by rw [List.length_append, be_length, be_length, codes_len, HL.out]; have := HN.out; omega) (by simpa using hb4) (fun icb => sgFill1 _ w4 w.heap.size a n c icb zs HL.out HN.out H0.out HZ.out hx4 ((HR.out.keep hb2).kp hk4 (Nat.lt_succ_of_lt HRA.out)) (Nat.lt_succ_self _) (Nat.lt_succ_of_lt HRA.out)))
  have HK4 : Hid (Kp (fun k => k < w.heap.size + 1) w w4) := Lib.hid ((Kp.below hb2).trans hk4)
  clear hb4 hk4 hbp hb2 hx
  go_wp2_with fail
  refine HAL.out.mono ?_
  rintro e w5 ⟨rfl, icb, hb5, hk5⟩
  have HBY := Lib.hid (bytesP_any _ (w.heap.size + 1) _ _ _ (by rw [List.length_append, be_length]; omega) w5 hb5)
  have HB5 : Hid (Below w.heap.size w w5) := Lib.hid ((HK4.out.trans hk5).toBelow (Nat.le_refl _) (fun k hk => Nat.lt_succ_of_lt hk))
  clear hb5 hk5 HAL
  go_wp2_with fail
  refine HBY.out.mono ?_
  rintro e w6 ⟨A', n', c', rfl, h1, h2, h3⟩
  have H1 := Lib.hid h1
  have H2 := Lib.hid h2
  have H3 := Lib.hid h3
  clear h1 h2 h3
  go_wp2_with fail
  go_ret2
  exact ⟨_, _, _, rfl, H1.out, H2.out, below_two HB5.out H3.out⟩
set_option maxHeartbeats 1000000 in
theorem marshalSg_any (g a n c : Nat) (zs : List (Nat × Nat)) (hl : zs.length = n) (hn : n ≤ 1000) (h0 : 0 < n) (hz : Sch zs) (w : World) (hk : Blk w g 57 #[.slice (some ⟨a, 0, none⟩) n c]) (hr : Rd w (some ⟨a, 0, none⟩) (pv zs)) :
    Calls Try.prog 12 #[.pointer (some ⟨g, 0, none⟩)] w fun e w' => ∃ A' n' c', e = .returned (.tuple #[.slice A' n' c', .nilIface]) ∧ (sgOut zs).length = n' ∧ Rd w' A' (vs (sgOut zs)) ∧ Below w.heap.size w w' := by
  have HT : Hid (∀ W, Calls Try.prog 19 #[.agg #[.slice (some ⟨a, 0, none⟩) n c]] W fun e w' => e = .returned (.int .u16 13) ∧ Below W.heap.size W w') := Lib.hid (fun W => sgType_any _ W)
  have HG : Hid (∀ W, Below w.heap.size w W → Calls Try.prog 18 #[.int .u16 13, .slice (some ⟨a, 0, none⟩) n c] W fun e w' => ∃ A' n' c', e = .returned (.tuple #[.slice A' n' c', .nilIface]) ∧ (sgOut zs).length = n' ∧ Rd w' A' (vs (sgOut zs)) ∧ Below W.heap.size W w') := Lib.hid (fun W hW => marshalGen_any a n c zs hl hn h0 hz W (hr.keep hW))
  have HBX : Hid (∀ w', Below w.heap.size w w' → w'.cell? ⟨g, 0, none⟩ = some (.slice (some ⟨a, 0, none⟩) n c)) := Lib.hid (fun w' hb => by have := (hk.keep hb).cell 0; simpa using this)
  clear hl hn h0 hz hk hr
  go_enter Try.func12, Try.ntmps12
  go_wp2_with fail
  go_region_held_law (fun w' => w'.cell? ⟨g, 0, none⟩ = some (.slice (some ⟨a, 0, none⟩) n c)) ((refine HBX.out _ ?_; first | exact below_drew _ | exact below_two (below_drew _) hb2 | exact below_two (below_two (below_drew _) hb2) hb3)) (first
    | (go_at_call 19; with_reducible refine (HT.out _).mono ?_; rintro e w2 ⟨rfl, hb2⟩)
    | (go_at_call 18; with_reducible refine (HG.out _ (below_two (below_drew _) hb2)).mono ?_; rintro e w3 ⟨A', n', c', rfl, h1, h2, hb3⟩))
  have H1 := Lib.hid h1
  have H2 := Lib.hid h2
  have HB := Lib.hid (below_two (below_two (below_drew w) hb2) hb3)
  clear h1 h2 hb2 hb3
  go_wp2_with fail
  go_ret2
  exact ⟨_, _, _, rfl, H1.out, H2.out, HB.out⟩
theorem sgWrite_any (b o n c : Nat) (zs : List (Nat × Nat)) (hl : zs.length = n) (hn : n ≤ 1000) (h0 : 0 < n) (hz : Sch zs) (w : World) (hr : Rd w (some ⟨b, o, none⟩) (pv zs)) :
    Calls Try.prog 5 #[.agg (extSg (some ⟨b, o, none⟩) n c)] w fun e w' => e = .returned (.tuple #[.string (S (sgOut zs)), .bool true]) ∧ Below w.heap.size w w' := by
  obtain ⟨cs, hcs⟩ : ∃ cs, extSg (some ⟨b, o, none⟩) n c = cs := ⟨_, rfl⟩
  have HM := Lib.hid (makeSg_any b o n c zs hl (by omega) h0 cs (by rw [← hcs]; rfl) (w.alloc (.cells cs 34)) (hr.keep (below_alloc _ _)))
  have HC := Lib.hid (fun g a c w hk hr => marshalSg_any g a n c zs hl hn h0 hz w hk hr)
  have hi : (Try.prog.info? 34).map (·.size) = some cs.size := by rw [← hcs]; exact sgExtInfo
  rw [hcs]
  clear hl hn h0 hz hr hcs
  go_enter Try.func5, Try.ntmps5
  have hg := heap_alloc_new w (.cells cs 34)
  go_wp2_with (with_reducible refine wpList_load_row rfl 34 (.tmp 1) rfl w.heap.size (by with_unfolding_all rfl) 34 cs (0, 0) _ hg Try.underlying34 (by with_unfolding_all rfl) hi ?_)
  clear hi hg
  go_wp2_with fail
  refine HM.out.mono ?_
  rintro e w1 ⟨g, a, c', rfl, hk, hr, hb1⟩
  have HCC := Lib.hid (HC.out g a c' w1 hk hr)
  have HB1 := Lib.hid (below_two (below_alloc w _) hb1)
  clear hk hr hb1 HM HC
  go_wp2_with fail
  refine HCC.out.mono ?_
  rintro e w2 ⟨A', n', c2, rfl, hn', hr2, hb2⟩
  have HT := Lib.hid (text_any A' n' c2 _ hn' w2 hr2)
  have HB2 := Lib.hid (below_two HB1.out hb2)
  clear hn' hr2 hb2
  go_wp2_with fail
  refine HT.out.mono ?_
  rintro e w3 ⟨rfl, rfl⟩
  go_wp2_with fail
  go_ret2
  exact ⟨rfl, HB2.out⟩
theorem sgl_big (A : Option Addr) (n c : Nat) (h1 : decide ((2147483647 : Int) < n) = true) (w : World) :
    Calls Try.prog 3 #[.slice A n c] w fun e w' => e = .returned (.bool true) ∧ Below w.heap.size w w' := by
  go_enter Try.func3, Try.ntmps3
  go_wp2_with fail
  go_ret
  exact ⟨rfl, Below.refl _ _⟩
theorem sgl_nil (A : Option Addr) (c : Nat) (w : World) :
    Calls Try.prog 3 #[.slice A 0 c] w fun e w' => e = .returned (.bool true) ∧ Below w.heap.size w w' := by
  go_enter Try.func3, Try.ntmps3
  go_wp2_with fail
  refine (schemes0 A c w).mono ?_
  rintro e w1 ⟨rfl, rfl⟩
  go_wp2_with fail
  go_ret
  exact ⟨rfl, Below.refl _ _⟩
set_option maxHeartbeats 1000000 in
theorem sgl_any (b o n c : Nat) (zs : List (Nat × Nat)) (hl : zs.length = n) (h0 : 0 < n) (h1 : decide ((2147483647 : Int) < n) = false) (HN : Hid ((n : Int) ≤ 2147483647)) (w : World) (hr : Rd w (some ⟨b, o, none⟩) (pv zs)) :
    Calls Try.prog 3 #[.slice (some ⟨b, o, none⟩) n c] w fun e w' => e = .returned (.bool true) ∧ Below w.heap.size w w' := by
  have HS := Lib.hid (schemes_any b o n c zs hl h0 HN w hr)
  have HR := Lib.hid hr
  have HL := Lib.hid hl
  have H0 := Lib.hid h0
  clear hr hl h0
  go_enter Try.func3, Try.ntmps3
  go_wp2_with fail
  refine HS.out.mono ?_
  rintro e w1 ⟨d, rfl, hd, hb1⟩
  cases d with
  | false =>
    clear hd
    go_wp2_with fail
    go_ret
    exact ⟨rfl, hb1⟩
  | true =>
    obtain ⟨hsch, _, hlt⟩ := hd rfl
    have hn : n ≤ 1000 := by have := HL.out; omega
    have HW := Lib.hid (sgWrite_any b o n c zs HL.out hn H0.out hsch w1 (HR.out.keep hb1))
    have HM := Lib.hid (fun w hr => marks_any b o n c zs HL.out (by omega) hsch w hr)
    have hfl : (flat 2 (codes zs)).length = n * 2 := by rw [codes_len, HL.out]
    have HV := Lib.hid (fun w => vec_any 2 (by omega) (flat 2 (codes zs)) (by omega) w)
    have HF := Lib.hid (fun w => framedExt_any 13 (by omega) (be 2 (flat 2 (codes zs)).length ++ flat 2 (codes zs)) (by rw [List.length_append, be_length]; omega) w)
    have HB1 := Lib.hid hb1
    unfold extSg at HW
    clear hd hsch hlt hn hfl hb1 HS
    go_wp2_with fail
    refine HW.out.mono ?_
    rintro e w2 ⟨rfl, hb2⟩
    have HB2 := Lib.hid (below_two HB1.out hb2)
    clear hb2 HW
    go_wp2_with fail
    refine (HM.out w2 (HR.out.keep HB2.out)).mono ?_
    rintro e w3 ⟨rfl, hb3⟩
    have HB3 := Lib.hid (below_two HB2.out hb3)
    clear hb3
    go_wp2_with fail
    refine (HV.out w3).mono ?_
    rintro e w4 ⟨rfl, hb4⟩
    have HB4 := Lib.hid (below_two HB3.out hb4)
    clear hb4
    go_wp2_with fail
    refine (HF.out w4).mono ?_
    rintro e w5 ⟨rfl, hb5⟩
    have HE : Hid (S (sgOut zs) = S (be 2 13 ++ (be 2 (be 2 (flat 2 (codes zs)).length ++ flat 2 (codes zs)).length ++ (be 2 (flat 2 (codes zs)).length ++ flat 2 (codes zs))))) := Lib.hid rfl
    rw [HE.out]
    go_wp2_with fail
    go_ret
    exact ⟨by simp, below_two HB4.out hb5⟩
theorem sgl_row (A : Option Addr) (n c : Nat) (zs : List (Nat × Nat)) (hz : zs.length = n) (hnc : n ≤ c) (w : World) (hr : Rd w A (pv zs)) :
    Calls Try.prog 3 #[.slice A n c] w fun e w' => e = .returned (.bool true) ∧ Below w.heap.size w w' := by
  by_cases h0 : 0 < n
  case neg =>
    obtain rfl : n = 0 := by omega
    exact sgl_nil A c w
  by_cases h1 : (2147483647 : Int) < n
  · exact sgl_big A n c (by simpa using h1) w
  · rcases hr with hr | ⟨b, o, rfl, hr⟩
    · have := congrArg List.length hr
      rw [pv_length] at this
      simp at this
      omega
    · exact sgl_any b o n c zs hz h0 (by simpa using h1) (Lib.hid (Int.not_lt.1 h1)) w (.inr ⟨b, o, rfl, hr⟩)
end Go.Proofs.Ytgnkfpfgolhokaa
