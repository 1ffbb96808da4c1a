/- Walks: the law of filters that are written. -/
import Derived.Test.YtfelfjdgmjapnaaDoorFilB
import Derived.Test.YtfelfjdgmjapnaaDoorFilRow
namespace Go.Proofs.YtfelfjdgmjapnaaDoor
open Go.RowKit Go.Cv
set_option maxRecDepth 100000
set_option linter.unusedVariables false
def flOut (zs : List (List UInt8 × List UInt8)) : List UInt8 := be 2 48 ++ (be 2 (be 2 (filOut zs).length ++ filOut zs).length ++ (be 2 (filOut zs).length ++ filOut zs))
theorem fil_small {zs : List (List UInt8 × List UInt8)} {n : Nat} (hl : zs.length = n) (hn : n < 1000) (hz : FilP zs) : (filOut zs).length ≤ 63000 := by
  rw [filOut_len]; have := hz.tot; omega
theorem filFill1 (P0 : Nat → Prop) (w0 : World) (x g a n c icb : Nat) (zs : List (List UInt8 × List UInt8)) (hl : zs.length = n) (hn : n < 1000) (hz : FilP zs) (hx : w0.cell? ⟨x, 0, none⟩ = some (.pointer (some ⟨g, 0, none⟩))) (hg : w0.cell? ⟨g, 0, none⟩ = some (.slice (some ⟨a, 0, none⟩) n c)) (he : FEl P0 w0 a zs) (hPx : P0 x) (hPg : P0 g) (hPa : P0 a) :
    Fills P0 w0 42 #[.pointer (some ⟨x, 0, none⟩)] icb (be 2 (filOut zs).length ++ filOut zs) := by
  intro w1 P q off pl k hsub hk hic hPi hl0 hs hbp
  rw [List.length_append, be_length] at hs
  have hmf : ∀ (fn : Fn) (first cap : Array Value) (w : World), (Instr.makeFunc fn first cap).run Tryd.prog w = .ok (.func fn first cap) w := fun _ _ _ _ => rfl
  have hsm := fil_small hl hn hz
  have HA := Lib.hid (alp16In_any P w1 43 #[.pointer (some ⟨x, 0, none⟩)] q icb off pl k (filOut zs) (fEnters Tryd.func43 (by kernel_rfl) rfl) (by omega) (by omega) hbp hic hPi
    (filFill2 P w1 x g a n c icb zs hl hn hz (hk.cell hx hPx) (hk.cell hg hPg) ((he.kp hk hPa).sub hsub) (hsub _ hPx) (hsub _ hPg) (hsub _ hPa)))
  clear hx hg he hPx hPg hPa hsub hk hic hPi hl0 hs hbp hl hn hz hsm
  show Calls Tryd.prog 42 #[.pointer (some ⟨q, 0, none⟩), .pointer (some ⟨x, 0, none⟩)] w1 _
  go_enter Tryd.func42, Tryd.ntmps42
  go_wp2_with fail
  refine HA.out.mono ?_
  rintro e w2 ⟨rfl, h3, h4⟩
  go_wp2_with fail
  go_end0
  exact ⟨rfl, h3, h4⟩
theorem flType_any (v : Array Value) (w : World) : Calls Tryd.prog 40 #[.agg v] w fun e w' => e = .returned (.int .u16 48) ∧ Below w.heap.size w w' := by
  go_enter Tryd.func40, Tryd.ntmps40
  go_wp2_with fail
  go_ret
  exact ⟨rfl, by first | exact below_alloc _ _ | exact Below.refl _ _⟩
theorem flStart (w : World) (P : Nat → Prop) (hP : ∀ k, P k → k < w.heap.size) : BP P (w.alloc (.cells #[.nilIface, .slice none 0 0, .bool false, .pointer none, .int .i64 0, .int .i64 0, .bool false, .pointer none] 110)) w.heap.size (.pointer none) 0 0 [] :=
  ⟨none, 0, Blk.new _ _ _, Own.nil _ _ _, .inl rfl, fun h => Nat.lt_irrefl _ (hP _ h), fun k hk => by rw [World.size_alloc]; exact Nat.lt_succ_of_lt (hP k hk)⟩
set_option maxHeartbeats 1000000 in
theorem marshalFl_any (b a n c : Nat) (zs : List (List UInt8 × List UInt8)) (hl : zs.length = n) (hn : n < 1000) (hz : FilP zs) (w : World) (hk : Blk w b 104 #[.slice (some ⟨a, 0, none⟩) n c]) (hab : a < w.heap.size) (he : FEl (fun k => k < w.heap.size) w a zs) :
    Calls Tryd.prog 31 #[.pointer (some ⟨b, 0, none⟩)] w fun e w' => ∃ A' n' c', e = .returned (.tuple #[.slice A' n' c', .nilIface]) ∧ (flOut zs).length = n' ∧ Rd w' A' (vs (flOut zs)) ∧ Below w.heap.size w w' := by
  have hmf : ∀ (fn : Fn) (first cap : Array Value) (w : World), (Instr.makeFunc fn first cap).run Tryd.prog w = .ok (.func fn first cap) w := fun _ _ _ _ => rfl
  have hps := hk.lt
  have c0 := (hk.cell 0).trans (rfl : _ = some (Value.slice (some ⟨a, 0, none⟩) n c))
  have HK := Lib.hid hk
  have HE := Lib.hid he
  have HAB := Lib.hid hab
  have HL := Lib.hid hl
  have HN := Lib.hid hn
  have HZ := Lib.hid hz
  have HSM := Lib.hid (fil_small hl hn hz)
  clear hk he hab hl hn hz
  go_enter Tryd.func31, Tryd.ntmps31
  go_wp2_with fail
  have hba := below_alloc w (.cells #[.pointer (some ⟨b, 0, none⟩)] 83)
  have hsz := World.size_alloc w (.cells #[.pointer (some ⟨b, 0, none⟩)] 83)
  have hbp := flStart (w.alloc (.cells #[.pointer (some ⟨b, 0, none⟩)] 83)) (fun k => k < w.heap.size + 1) (fun k hk => by rw [hsz]; exact hk)
  have hx := ((Blk.new w 83 #[.pointer (some ⟨b, 0, none⟩)]).alloc (.cells #[.nilIface, .slice none 0 0, .bool false, .pointer none, .int .i64 0, .int .i64 0, .bool false, .pointer none] 110)).cell 0
  replace hx := hx.trans (rfl : _ = some (Value.pointer (some ⟨b, 0, none⟩)))
  have hb2 : Below w.heap.size w ((w.alloc (.cells #[.pointer (some ⟨b, 0, none⟩)] 83)).alloc (.cells #[.nilIface, .slice none 0 0, .bool false, .pointer none, .int .i64 0, .int .i64 0, .bool false, .pointer none] 110)) := below_two hba (below_alloc _ _)
  rw [hsz] at hbp
  clear c0 hba hsz
  generalize (w.alloc (.cells #[.pointer (some ⟨b, 0, none⟩)] 83)).alloc (.cells #[.nilIface, .slice none 0 0, .bool false, .pointer none, .int .i64 0, .int .i64 0, .bool false, .pointer none] 110) = W at *
  refine (flType_any _ W).mono ?_
  rintro e w3 ⟨rfl, hb3⟩
  have HA := Lib.hid (addP16_any (fun k => k < w.heap.size + 1) (w.heap.size + 1) (.pointer none) 0 0 [] 48 (by simp) w3 (hbp.keep hb3))
  have HB3 := Lib.hid (below_two hb2 hb3)
  have HX3 := Lib.hid (keep_of_below hb3 _ _ hx)
  clear hbp hb2 hb3 hx
  go_wp2_with fail
  refine HA.out.mono ?_
  rintro e w4 ⟨rfl, hb4, hk4⟩
  have hx4 := hk4.cell HX3.out (Nat.lt_succ_self _)
  have HK4 : Hid (Kp (fun k => k < w.heap.size + 1) w w4) := Lib.hid ((Kp.below HB3.out).trans hk4)
  have hg4 := ((HK.out.kp HK4.out (Nat.lt_succ_of_lt hps)).cell 0).trans (rfl : _ = some (Value.slice (some ⟨a, 0, none⟩) n c))
  have he4 := (HE.out.sub (P := fun k => k < w.heap.size + 1) (fun k h => Nat.lt_succ_of_lt h)).kp HK4.out (Nat.lt_succ_of_lt HAB.out)
  have HAL := Lib.hid (alp16Top_any (fun k => k < w.heap.size + 1) w4 42 #[.pointer (some ⟨w.heap.size, 0, none⟩)] (w.heap.size + 1) 0 0 (be 2 48) (be 2 (filOut zs).length ++ filOut zs) (fEnters Tryd.func42 (by kernel_rfl) rfl) (by rw [List.length_append, be_length]; have := HSM.out; omega) (by rw [List.length_append, be_length, be_length]; have := HSM.out; omega) (by simpa using hb4)
    (fun icb => filFill1 _ w4 w.heap.size b a n c icb zs HL.out HN.out HZ.out hx4 hg4 he4 (Nat.lt_succ_self _) (Nat.lt_succ_of_lt hps) (Nat.lt_succ_of_lt HAB.out)))
  clear hb4 hk4 hx4 hg4 he4 HA
  go_wp2_with fail
  refine HAL.out.mono ?_
  rintro e w5 ⟨rfl, icb, hb5, hk5⟩
  have HBY := Lib.hid (bytesP_any _ (w.heap.size + 1) _ _ _ (by rw [List.length_append, be_length]; omega) w5 hb5)
  have HB5 : Hid (Below w.heap.size w w5) := Lib.hid ((HK4.out.trans hk5).toBelow (Nat.le_refl _) (fun k hk => Nat.lt_succ_of_lt hk))
  clear hb5 hk5 HAL
  go_wp2_with fail
  refine HBY.out.mono ?_
  rintro e w6 ⟨A', n', c', rfl, h1, h2, h3⟩
  have H1 := Lib.hid h1
  have H2 := Lib.hid h2
  have H3 := Lib.hid h3
  clear h1 h2 h3
  go_wp2_with fail
  go_ret2
  exact ⟨_, _, _, rfl, H1.out, H2.out, below_two HB5.out H3.out⟩
theorem fel_of {base : Nat} {a n c : Nat} {w : World} {zs : List (List UInt8 × List UInt8)} {xs : List Value} (hO : Own w base 2 (some ⟨a, 0, none⟩) n c xs) (hF : FE base (some ⟨a, 0, none⟩) w zs xs) : FEl (fun k => k < w.heap.size) w a zs := fun j x y hj => by
  obtain ⟨v1, v2, g1, g2, ⟨e1, c1, rfl, _, l1, _, r1⟩, ⟨e2, c2, rfl, _, l2, _, r2⟩⟩ := hF.2 j x y hj
  have hr := hO.rd
  rcases hr with hr | ⟨b', o', hA, hr⟩
  · rw [hr] at g1; simp at g1
  · injection hA with hA
    injection hA with hb ho
    subst hb ho
    have q1 := hr _ _ g1
    have q2 := hr _ _ g2
    simp only [Nat.zero_add] at q1 q2
    exact ⟨e1, c1, e2, c2, q1, q2, l1, l2, r1, r2⟩
def extFl (A : Option Addr) (n c : Nat) : Array Value := #[.int .u16 48, .string (S []), .slice none 0 0, .slice none 0 0, .slice none 0 0, .bool false, .int .u32 0, .bool false, .slice none 0 0, .slice none 0 0, .slice none 0 0, .slice none 0 0, .slice A n c]
theorem flExtInfo : (Tryd.prog.info? 47).map (·.size) = some 13 := by kernel_rfl
theorem flWrite_any (b o n c : Nat) (zs : List (List UInt8 × List UInt8)) (hl : zs.length = n) (hn : n < 1000) (h0 : 0 < n) (hz : FilP zs) (w : World) (hr : Rd w (some ⟨b, o, none⟩) (fv zs)) :
    Calls Tryd.prog 12 #[.agg (extFl (some ⟨b, o, none⟩) n c)] w fun e w' => e = .returned (.tuple #[.string (S (flOut zs)), .bool true]) ∧ Below w.heap.size w w' := by
  obtain ⟨cs, hcs⟩ : ∃ cs, extFl (some ⟨b, o, none⟩) n c = cs := ⟨_, rfl⟩
  have HM := Lib.hid (makeFil_any b o n c zs hl hn hz cs (by rw [← hcs]; rfl) (w.alloc (.cells cs 47)) (hr.keep (below_alloc _ _)))
  have HC := Lib.hid (fun g a c w hk hab he => marshalFl_any g a n c zs hl hn hz w hk hab he)
  have hi : (Tryd.prog.info? 47).map (·.size) = some cs.size := by rw [← hcs]; exact flExtInfo
  have H0 := Lib.hid h0
  rw [hcs]
  clear hl hn h0 hz hr hcs
  go_enter Tryd.func12, Tryd.ntmps12
  have hg := heap_alloc_new w (.cells cs 47)
  go_wp2_with (with_reducible refine wpList_load_row rfl 47 (.tmp 1) rfl w.heap.size (by with_unfolding_all rfl) 47 cs (0, 0) _ hg Tryd.underlying47 (by with_unfolding_all rfl) hi ?_)
  clear hi hg
  go_wp2_with fail
  refine HM.out.mono ?_
  rintro e w1 ⟨g, A, c', xs, rfl, hhi, hlo, hk, hO, hF, hb1⟩
  obtain ⟨a, rfl, hge⟩ : ∃ a, A = some ⟨a, 0, none⟩ ∧ _ ≤ a := by
    rcases hhi with rfl | h
    · obtain ⟨_, h2, _, h3 | ⟨_, _, h4, _⟩⟩ := hO
      · have := H0.out; omega
      · simp at h4
    · exact h
  have HCC := Lib.hid (HC.out g a c' w1 hk (hlo a rfl) (fel_of hO hF))
  have HB1 := Lib.hid (below_two (below_alloc w _) hb1)
  clear hk hhi hlo hge hO hF hb1 HM HC
  go_wp2_with fail
  refine HCC.out.mono ?_
  rintro e w2 ⟨A', n', c2, rfl, hn', hr2, hb2⟩
  have HT := Lib.hid (text_any A' n' c2 _ hn' w2 hr2)
  have HB2 := Lib.hid (below_two HB1.out hb2)
  clear hn' hr2 hb2
  go_wp2_with fail
  refine HT.out.mono ?_
  rintro e w3 ⟨rfl, rfl⟩
  go_wp2_with fail
  go_ret2
  exact ⟨rfl, HB2.out⟩
theorem fll_big (A : Option Addr) (n c : Nat) (h1 : decide ((2147483647 : Int) < n) = true) (w : World) :
    Calls Tryd.prog 4 #[.slice A n c] w fun e w' => e = .returned (.bool true) ∧ Below w.heap.size w w' := by
  have HF := Lib.hid (fits12_big A n c h1 w)
  clear h1
  go_enter Tryd.func4, Tryd.ntmps4
  go_wp2_with fail
  refine HF.out.mono ?_
  rintro e w1 ⟨rfl, rfl⟩
  go_wp2_with fail
  go_ret
  exact ⟨rfl, Below.refl _ _⟩
theorem fll_nil (A : Option Addr) (c : Nat) (w : World) :
    Calls Tryd.prog 4 #[.slice A 0 c] w fun e w' => e = .returned (.bool true) ∧ Below w.heap.size w w' := by
  go_enter Tryd.func4, Tryd.ntmps4
  go_wp2_with fail
  refine (fits12_0 A c w).mono ?_
  rintro e w1 ⟨rfl, rfl⟩
  go_wp2_with fail
  refine (filters0 A c w).mono ?_
  rintro e w1 ⟨rfl, rfl⟩
  go_wp2_with fail
  go_ret
  exact ⟨rfl, Below.refl _ _⟩
set_option maxHeartbeats 1000000 in
theorem fll_any (b o n c : Nat) (zs : List (List UInt8 × List UInt8)) (hl : zs.length = n) (h0 : 0 < n) (hnc : n ≤ c) (h1 : decide ((2147483647 : Int) < n) = false) (HN : Hid ((n : Int) ≤ 2147483647)) (w : World) (hr : Rd w (some ⟨b, o, none⟩) (fv zs)) :
    Calls Tryd.prog 4 #[.slice (some ⟨b, o, none⟩) n c] w fun e w' => e = .returned (.bool true) ∧ Below w.heap.size w w' := by
  have HS0 := Lib.hid (fits12_any b o n c zs hl h1 w hr)
  have HR := Lib.hid hr
  have HL := Lib.hid hl
  have H0 := Lib.hid h0
  have HNC := Lib.hid hnc
  clear hr hl h0 h1 hnc
  go_enter Tryd.func4, Tryd.ntmps4
  go_wp2_with fail
  refine HS0.out.mono ?_
  rintro e w1 ⟨d, rfl, hd, hb1⟩
  have HB1 := Lib.hid hb1
  clear hb1
  cases d with
  | false =>
    clear hd
    go_wp2_with fail
    go_ret
    exact ⟨rfl, HB1.out⟩
  | true =>
    have HFT := Lib.hid (hd rfl)
    have HS := Lib.hid (filters_any b o n c zs HL.out H0.out HN HNC.out HFT.out w1 (HR.out.keep HB1.out))
    clear hd HS0
    go_wp2_with fail
    refine HS.out.mono ?_
    rintro e w2 ⟨d, rfl, hd, hb2⟩
    have HB2 := Lib.hid (below_two HB1.out hb2)
    clear hb2
    cases d with
    | false =>
      clear hd
      go_wp2_with fail
      go_ret
      exact ⟨rfl, HB2.out⟩
    | true =>
      obtain ⟨hz, _, hlt⟩ := hd rfl
      have hn : n < 1000 := by have := HL.out; omega
      have hsm := fil_small HL.out hn hz
      have HW := Lib.hid (flWrite_any b o n c zs HL.out hn H0.out hz w2 (HR.out.keep HB2.out))
      have HM := Lib.hid (fun w hr => sieves_any b o n c zs HL.out hn hz w hr)
      have HV := Lib.hid (fun w => vec_any 2 (by omega) (filOut zs) (by omega) w)
      have HF := Lib.hid (fun w => framedExt_any 48 (by omega) (be 2 (filOut zs).length ++ filOut zs) (by rw [List.length_append, be_length]; omega) w)
      unfold extFl at HW
      clear hd hz hlt hn hsm HS
      go_wp2_with fail
      refine HW.out.mono ?_
      rintro e w3 ⟨rfl, hb3⟩
      have HB3 := Lib.hid (below_two HB2.out hb3)
      clear hb3 HW
      go_wp2_with fail
      refine (HM.out w3 (HR.out.keep HB3.out)).mono ?_
      rintro e w4 ⟨rfl, hb4⟩
      have HB4 := Lib.hid (below_two HB3.out hb4)
      clear hb4
      go_wp2_with fail
      refine (HV.out w4).mono ?_
      rintro e w5 ⟨rfl, hb5⟩
      have HB5 := Lib.hid (below_two HB4.out hb5)
      clear hb5
      go_wp2_with fail
      refine (HF.out w5).mono ?_
      rintro e w6 ⟨rfl, hb6⟩
      have HE : Hid (S (flOut zs) = S (be 2 48 ++ (be 2 (be 2 (filOut zs).length ++ filOut zs).length ++ (be 2 (filOut zs).length ++ filOut zs)))) := Lib.hid rfl
      rw [HE.out]
      go_wp2_with fail
      go_ret
      exact ⟨by simp, below_two HB5.out hb6⟩
theorem fll_row (A : Option Addr) (n c : Nat) (zs : List (List UInt8 × List UInt8)) (hz : zs.length = n) (hnc : n ≤ c) (w : World) (hr : Rd w A (fv zs)) {p0 p1 : Prop} (ad0 : Addr) (hg0 : p0) (ad1 : Addr) (hg1 : p1) :
    Calls Tryd.prog 4 #[.slice A n c] w fun e w' => e = .returned (.bool true) ∧ Below w.heap.size w w' := by
  by_cases h0 : 0 < n
  case neg =>
    obtain rfl : n = 0 := by omega
    exact fll_nil A c w
  by_cases h1 : (2147483647 : Int) < n
  · exact fll_big A n c (by simpa using h1) w
  · rcases hr with hr | ⟨b, o, rfl, hr⟩
    · have := congrArg List.length hr
      rw [fv_length] at this
      simp at this
      omega
    · exact fll_any b o n c zs hz h0 hnc (by simpa using h1) (Lib.hid (Int.not_lt.1 h1)) w (.inr ⟨b, o, rfl, hr⟩)
end Go.Proofs.YtfelfjdgmjapnaaDoor
