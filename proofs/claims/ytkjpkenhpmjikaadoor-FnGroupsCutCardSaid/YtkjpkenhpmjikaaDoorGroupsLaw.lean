/- Walks: the law of FnGroupsCut. -/
import Derived.Test.YtkjpkenhpmjikaaDoorGroupsRead
import Derived.Test.YtkjpkenhpmjikaaDoorNums
import Derived.Test.YtkjpkenhpmjikaaDoorOps6
namespace Go.Proofs.YtkjpkenhpmjikaaDoor
open Go.RowKit Go.Cv
set_option maxRecDepth 100000
set_option linter.unusedVariables false
theorem gcut_of (p q u v : UInt8) (s : List UInt8) (hn : p.toNat * 256 + q.toNat = s.length + 2) (j : Nat) (hj : j < s.length + 6) : GCut ((0 :: 10 :: p :: q :: u :: v :: s).take j) := by
  by_cases h6 : j < 6
  · exact .inl (by simp; omega)
  · obtain ⟨i, rfl⟩ : ∃ i, j = i + 6 := ⟨j - 6, by omega⟩
    exact .inr ⟨p, q, u, v, s.take i, rfl, by rw [hn]; simp; omega⟩
theorem all_nil (A B : Option Addr) (c n2 c2 : Nat) (w : World) :
    Calls Tryd.prog 15 #[.slice A 0 c, .slice B n2 c2] w fun e w' => e = .returned (.bool false) ∧ w = w' := by
  go_enter Tryd.func15, Tryd.ntmps15
  go_wp2_with fail
  refine wp_loop_rounds 1 ?_
  rw [rounds_succ]
  go_wp2_with fail
  go_ret
  exact ⟨rfl, rfl⟩
theorem grc_big (A : Option Addr) (n c : Nat) (x : Int) (h1 : decide ((2147483647 : Int) < n) = true) (w : World) :
    Calls Tryd.prog 3 #[.slice A n c, .int .i64 x] w fun e w' => e = .returned (.bool true) ∧ Below w.heap.size w w' := by
  go_enter Tryd.func3, Tryd.ntmps3
  go_wp2_with fail
  go_ret
  exact ⟨rfl, Below.refl _ _⟩
theorem grc_long (A : Option Addr) (n c : Nat) (x : Int) (h1 : decide ((2147483647 : Int) < n) = false) (h4 : decide ((n : Int) < 1000) = false) (w : World) :
    Calls Tryd.prog 3 #[.slice A n c, .int .i64 x] w fun e w' => e = .returned (.bool true) ∧ Below w.heap.size w w' := by
  go_enter Tryd.func3, Tryd.ntmps3
  go_wp2_with fail
  go_ret
  exact ⟨rfl, Below.refl _ _⟩
theorem grc_nil (A : Option Addr) (c : Nat) (x : Int) (w : World) :
    Calls Tryd.prog 3 #[.slice A 0 c, .int .i64 x] w fun e w' => e = .returned (.bool true) ∧ Below w.heap.size w w' := by
  go_enter Tryd.func3, Tryd.ntmps3
  go_wp2_with fail
  refine (all_nil A _ c _ _ _).mono ?_
  rintro e w1 ⟨rfl, rfl⟩
  go_wp2_with fail
  go_ret
  exact ⟨rfl, below_alloc _ _⟩
theorem grc_notall (b o n c : Nat) (x : Int) (zs : List Nat) (hl : zs.length = n) (h0 : 0 < n) (h1 : decide ((2147483647 : Int) < n) = false) (h4 : decide ((n : Int) < 1000) = true) (hall : zs.all ([23, 24, 29].contains ·) = false) (w : World) (hr : Rd w (some ⟨b, o, none⟩) (zv zs)) :
    Calls Tryd.prog 3 #[.slice (some ⟨b, o, none⟩) n c, .int .i64 x] w fun e w' => e = .returned (.bool true) ∧ Below w.heap.size w w' := by
  have i4 : (n : Int) < 1000 := by simpa using h4
  have hrow : ∀ W : World, Rd (W.alloc (.cells #[.int .u16 23, .int .u16 24, .int .u16 29] 24)) (some ⟨W.heap.size, 0, none⟩) (zv [23, 24, 29]) := fun W => rd_new W _ _
  have HA := Lib.hid (all_any b o n c w.heap.size 0 3 3 zs [23, 24, 29] hl (by omega) rfl (by omega) h0 (w.alloc (.cells #[.int .u16 23, .int .u16 24, .int .u16 29] 24)) (hr.keep (below_alloc _ _)) (hrow w))
  clear i4 hrow hl
  go_enter Tryd.func3, Tryd.ntmps3
  go_wp2_with fail
  refine HA.out.mono ?_
  rintro e w1 ⟨rfl, rfl⟩
  rw [hall]
  go_wp2_with fail
  go_ret
  exact ⟨rfl, below_alloc _ _⟩
theorem grc_small (b o n c : Nat) (x : Int) (zs : List Nat) (hl : zs.length = n) (h0 : 0 < n) (h1 : decide ((2147483647 : Int) < n) = false) (h4 : decide ((n : Int) < 1000) = true) (hall : zs.all ([23, 24, 29].contains ·) = true) (h5 : decide (x < 1) = true) (w : World) (hr : Rd w (some ⟨b, o, none⟩) (zv zs)) :
    Calls Tryd.prog 3 #[.slice (some ⟨b, o, none⟩) n c, .int .i64 x] w fun e w' => e = .returned (.bool true) ∧ Below w.heap.size w w' := by
  have i4 : (n : Int) < 1000 := by simpa using h4
  have hrow : ∀ W : World, Rd (W.alloc (.cells #[.int .u16 23, .int .u16 24, .int .u16 29] 24)) (some ⟨W.heap.size, 0, none⟩) (zv [23, 24, 29]) := fun W => rd_new W _ _
  have HA := Lib.hid (all_any b o n c w.heap.size 0 3 3 zs [23, 24, 29] hl (by omega) rfl (by omega) h0 (w.alloc (.cells #[.int .u16 23, .int .u16 24, .int .u16 29] 24)) (hr.keep (below_alloc _ _)) (hrow w))
  have hz : ∀ z ∈ zs, z < 65536 := fun z hz => by
    have h := List.all_eq_true.1 hall z hz
    simp at h
    omega
  have HN := Lib.hid (fun w hr => nums_any b o n c 2 zs hl (by omega) (by omega) hz w hr)
  have hfl : (flat 2 zs).length = n * 2 := by rw [flat_length, hl]
  have HV := Lib.hid (fun w => vec_any 2 (by omega) (flat 2 zs) (by omega) w)
  have hvl : (be 2 (flat 2 zs).length ++ flat 2 zs).length = n * 2 + 2 := by rw [List.length_append, be_length, hfl]; omega
  have HF := Lib.hid (fun w => framedExt_any 10 (by omega) (be 2 (flat 2 zs).length ++ flat 2 zs) (by omega) w)
  clear i4 hrow hl hz hfl hvl
  go_enter Tryd.func3, Tryd.ntmps3
  go_wp2_with fail
  refine HA.out.mono ?_
  rintro e w1 ⟨rfl, rfl⟩
  rw [hall]
  have hra := hr.keep (below_alloc w (.cells #[.int .u16 23, .int .u16 24, .int .u16 29] 24))
  go_wp2_with fail
  refine (HN.out _ hra).mono ?_
  rintro e w1 ⟨rfl, hb1⟩
  have hb1' := below_two (below_alloc w _) hb1
  go_wp2_with fail
  refine (HV.out w1).mono ?_
  rintro e w2 ⟨rfl, hb2⟩
  go_wp2_with fail
  refine (HF.out w2).mono ?_
  rintro e w3 ⟨rfl, hb3⟩
  have hb4 := below_two (below_two hb1' hb2) hb3
  clear hra hr
  go_wp2_with fail
  go_ret
  exact ⟨rfl, hb4⟩
theorem grc_over (b o n c : Nat) (x : Int) (zs : List Nat) (hl : zs.length = n) (h0 : 0 < n) (h1 : decide ((2147483647 : Int) < n) = false) (h4 : decide ((n : Int) < 1000) = true) (hall : zs.all ([23, 24, 29].contains ·) = true) (h5 : decide (x < 1) = false) (m : List UInt8) (hm : m = be 2 10 ++ (be 2 (be 2 (flat 2 zs).length ++ flat 2 zs).length ++ (be 2 (flat 2 zs).length ++ flat 2 zs))) (h6 : decide ((m.length : Int) < x) = true) (w : World) (hr : Rd w (some ⟨b, o, none⟩) (zv zs)) :
    Calls Tryd.prog 3 #[.slice (some ⟨b, o, none⟩) n c, .int .i64 x] w fun e w' => e = .returned (.bool true) ∧ Below w.heap.size w w' := by
  have h7 : (S m).size = m.length := S_size m
  have i4 : (n : Int) < 1000 := by simpa using h4
  have hrow : ∀ W : World, Rd (W.alloc (.cells #[.int .u16 23, .int .u16 24, .int .u16 29] 24)) (some ⟨W.heap.size, 0, none⟩) (zv [23, 24, 29]) := fun W => rd_new W _ _
  have HA := Lib.hid (all_any b o n c w.heap.size 0 3 3 zs [23, 24, 29] hl (by omega) rfl (by omega) h0 (w.alloc (.cells #[.int .u16 23, .int .u16 24, .int .u16 29] 24)) (hr.keep (below_alloc _ _)) (hrow w))
  have hz : ∀ z ∈ zs, z < 65536 := fun z hz => by
    have h := List.all_eq_true.1 hall z hz
    simp at h
    omega
  have HN := Lib.hid (fun w hr => nums_any b o n c 2 zs hl (by omega) (by omega) hz w hr)
  have hfl : (flat 2 zs).length = n * 2 := by rw [flat_length, hl]
  have HV := Lib.hid (fun w => vec_any 2 (by omega) (flat 2 zs) (by omega) w)
  have hvl : (be 2 (flat 2 zs).length ++ flat 2 zs).length = n * 2 + 2 := by rw [List.length_append, be_length, hfl]; omega
  have HF := Lib.hid (fun w => framedExt_any 10 (by omega) (be 2 (flat 2 zs).length ++ flat 2 zs) (by omega) w)
  rw [← hm] at HF
  clear i4 hrow hl hz hfl hvl hm
  go_enter Tryd.func3, Tryd.ntmps3
  go_wp2_with fail
  refine HA.out.mono ?_
  rintro e w1 ⟨rfl, rfl⟩
  rw [hall]
  have hra := hr.keep (below_alloc w (.cells #[.int .u16 23, .int .u16 24, .int .u16 29] 24))
  go_wp2_with fail
  refine (HN.out _ hra).mono ?_
  rintro e w1 ⟨rfl, hb1⟩
  have hb1' := below_two (below_alloc w _) hb1
  go_wp2_with fail
  refine (HV.out w1).mono ?_
  rintro e w2 ⟨rfl, hb2⟩
  go_wp2_with fail
  refine (HF.out w2).mono ?_
  rintro e w3 ⟨rfl, hb3⟩
  have hb4 := below_two (below_two hb1' hb2) hb3
  clear hra hr
  go_wp2_with fail
  go_ret
  exact ⟨rfl, hb4⟩
set_option maxHeartbeats 1000000 in
theorem grc_cut (b o n c : Nat) (y : Nat) (x : Int) (hxy : x = y) (zs : List Nat) (hl : zs.length = n) (h0 : 0 < n) (h1 : decide ((2147483647 : Int) < n) = false) (h4 : decide ((n : Int) < 1000) = true) (hall : zs.all ([23, 24, 29].contains ·) = true) (m k : List UInt8) (hm : m = be 2 10 ++ (be 2 (be 2 (flat 2 zs).length ++ flat 2 zs).length ++ (be 2 (flat 2 zs).length ++ flat 2 zs))) (hk : k = m.take (m.length - y)) (h5 : decide ((y : Int) < 1) = false) (h6 : decide ((m.length : Int) < y) = false) (w : World) (hr : Rd w (some ⟨b, o, none⟩) (zv zs)) (ad0 ad1 : Addr) (hg0 : w.cell? ⟨0, 0, none⟩ = some (.iface 210 (.pointer (some ad0)))) (hg1 : w.cell? ⟨3, 0, none⟩ = some (.iface 210 (.pointer (some ad1)))) :
    Calls Tryd.prog 3 #[.slice (some ⟨b, o, none⟩) n c, .int .i64 x] w fun e w' => e = .returned (.bool true) ∧ Below w.heap.size w w' := by
  subst hxy
  have h7 : (S m).size = m.length := S_size m
  have hx := S_extract m 0 (m.length - y)
  simp only [List.drop_zero] at hx
  rw [← hk] at hx
  have i1 : (1 : Int) ≤ y := by simpa using h5
  have i2 : (y : Int) ≤ m.length := by simpa using h6
  have i0 : (0 : Int) < n := by omega
  have i4 : (n : Int) < 1000 := by simpa using h4
  have hrow : ∀ W : World, Rd (W.alloc (.cells #[.int .u16 23, .int .u16 24, .int .u16 29] 24)) (some ⟨W.heap.size, 0, none⟩) (zv [23, 24, 29]) := fun W => rd_new W _ _
  have HA := Lib.hid (all_any b o n c w.heap.size 0 3 3 zs [23, 24, 29] hl (by omega) rfl (by omega) h0 (w.alloc (.cells #[.int .u16 23, .int .u16 24, .int .u16 29] 24)) (hr.keep (below_alloc _ _)) (hrow w))
  have hz : ∀ z ∈ zs, z < 65536 := fun z hz => by
    have h := List.all_eq_true.1 hall z hz
    simp at h
    omega
  have HN := Lib.hid (fun w hr => nums_any b o n c 2 zs hl (by omega) (by omega) hz w hr)
  have hfl : (flat 2 zs).length = n * 2 := by rw [flat_length, hl]
  have HV := Lib.hid (fun w => vec_any 2 (by omega) (flat 2 zs) (by omega) w)
  have hvl : (be 2 (flat 2 zs).length ++ flat 2 zs).length = n * 2 + 2 := by rw [List.length_append, be_length, hfl]; omega
  have HF := Lib.hid (fun w => framedExt_any 10 (by omega) (be 2 (flat 2 zs).length ++ flat 2 zs) (by omega) w)
  rw [← hm] at HF
  obtain ⟨p, q, e2, hpq⟩ := be2_parts (be 2 (flat 2 zs).length ++ flat 2 zs).length (by omega)
  obtain ⟨u, v, e1, huv⟩ := be2_parts (flat 2 zs).length (by omega)
  have hm' : m = 0 :: 10 :: p :: q :: u :: v :: flat 2 zs := by rw [hm, e2, e1]; rfl
  have hml : m.length = n * 2 + 6 := by rw [hm']; simp [hfl]
  have hcut : GCut k := by
    rw [hk, hm']
    exact gcut_of p q u v (flat 2 zs) (by rw [hpq, hvl, hfl]) _ (by simp; omega)
  have hkl : k.length = m.length - y := by rw [hk]; simp
  have hzv : ∀ z ∈ zs, z = 23 ∨ z = 24 ∨ z = 29 := fun z hz => by
    have h := List.all_eq_true.1 hall z hz
    simpa using h
  have HO := Lib.hid (fun w => groupsRead_ok m p q u v zs hm' (by omega) (by omega) hzv (by omega) (by omega) w)
  rw [hl] at HO
  have HC := Lib.hid (fun w hg0 hg1 => groupsRead_no k hcut (by omega) w ad0 ad1 hg0 hg1)
  clear hzv huv hpq e1 e2
  have iF : (0 : Int) ≤ (m.length : Int) - y := by omega
  have iG : (m.length : Int) - y ≤ m.length := by omega
  have iH : ((m.length : Int) - y).toNat = m.length - y := by omega
  have hw : wrap64 ((m.length : Int) - y) = (m.length : Int) - y := by unfold wrap64; omega
  have n1 : ¬ m.length < y := by omega
  have n2 : ¬ y < 1 := by omega
  clear hm hm' hk hkl i0 i1 i2 i4 hml hcut hrow hl hz hfl hvl
  go_enter Tryd.func3, Tryd.ntmps3
  go_wp2_with fail
  refine HA.out.mono ?_
  rintro e w1 ⟨rfl, rfl⟩
  rw [hall]
  have hra := hr.keep (below_alloc w (.cells #[.int .u16 23, .int .u16 24, .int .u16 29] 24))
  go_wp2_with fail
  refine (HN.out _ hra).mono ?_
  rintro e w1 ⟨rfl, hb1⟩
  have hb1' := below_two (below_alloc w _) hb1
  go_wp2_with fail
  refine (HV.out w1).mono ?_
  rintro e w2 ⟨rfl, hb2⟩
  go_wp2_with fail
  refine (HF.out w2).mono ?_
  rintro e w3 ⟨rfl, hb3⟩
  have hb4 := below_two (below_two hb1' hb2) hb3
  clear hra hr
  go_wp2_with fail
  refine (HO.out w3).mono ?_
  rintro e w4 ⟨A4, c4, rfl, hb5⟩
  have hb6 := below_two hb4 hb5
  go_wp2_with (with_reducible refine Held.store 35 ?_)
  refine held_store_new (cells := nmMsg 10 A4 n c4) extInfo rfl rfl rfl (by simp [nmMsg, Value.oneCell']) fun w5 _ hb7 _ => ?_
  have hb8 := below_two hb6 hb7
  have hg05 := keep_of_below hb8 _ _ hg0
  have hg15 := keep_of_below hb8 _ _ hg1
  go_wp2_with fail
  refine (HC.out w5 hg05 hg15).mono ?_
  rintro e w7 ⟨rfl, hb9⟩
  have hb10 := below_two hb8 hb9
  go_wp2_with (with_reducible refine Held.store 35 ?_)
  refine held_store_new (cells := zeroExt) extInfo rfl rfl rfl (by simp [zeroExt, Value.oneCell']) fun w9 _ hb11 _ => ?_
  go_wp2_with fail
  go_ret
  exact ⟨rfl, below_two hb10 hb11⟩
theorem grc_row (A : Option Addr) (n c : Nat) (z : List Int) (hz : z.length = n) (hnc : n ≤ c) (w : World) (hr : Rd w A (z.map (Value.int .u16))) (hw : ∀ v ∈ z, (Lit.int .u16 v).wf = true) (x : Int) (wx : (Lit.int .i64 x).wf = true) {p3 : Prop} (ad0 : Addr) (hg0 : w.cell? ⟨0, 0, none⟩ = some (.iface 210 (.pointer (some ad0)))) (adx : Addr) (g3 : p3) (ad1 : Addr) (hg1 : w.cell? ⟨3, 0, none⟩ = some (.iface 210 (.pointer (some ad1)))) :
    Calls Tryd.prog 3 #[.slice A n c, .int .i64 x] w fun e w' => e = .returned (.bool true) ∧ Below w.heap.size w w' := by
  by_cases h1 : (2147483647 : Int) < n
  · exact grc_big A n c x (by simpa using h1) w
  have h1' : decide ((2147483647 : Int) < n) = false := by simpa using h1
  by_cases h4 : (n : Int) < 1000
  · have h4' : decide ((n : Int) < 1000) = true := by simpa using h4
    by_cases h0 : 0 < n
    case neg =>
      obtain rfl : n = 0 := by omega
      exact grc_nil A c x w
    obtain ⟨zs, hzl, hzv⟩ : ∃ zs : List Nat, zs.length = n ∧ zv zs = z.map (Value.int .u16) := by
      refine ⟨z.map Int.toNat, by simpa using hz, ?_⟩
      unfold zv
      rw [List.map_map]
      refine List.map_congr_left fun v hv => ?_
      obtain ⟨k, rfl, _⟩ := nat_u16 (hw v hv)
      rfl
    rw [← hzv] at hr
    rcases hr with hr | ⟨b, o, rfl, hr⟩
    · have := congrArg List.length hr
      have h0' : zs.length = 0 := by simpa [zv] using this
      omega
    have hr : Rd w (some ⟨b, o, none⟩) (zv zs) := .inr ⟨b, o, rfl, hr⟩
    cases hall : zs.all ([23, 24, 29].contains ·) with
    | false => exact grc_notall b o n c x zs hzl (by omega) h1' h4' hall w hr
    | true =>
      by_cases h5 : x < 1
      · exact grc_small b o n c x zs hzl (by omega) h1' h4' hall (by simpa using h5) w hr
      · have h5' : decide (x < 1) = false := by simpa using h5
        obtain ⟨m, hm⟩ : ∃ m, m = be 2 10 ++ (be 2 (be 2 (flat 2 zs).length ++ flat 2 zs).length ++ (be 2 (flat 2 zs).length ++ flat 2 zs)) := ⟨_, rfl⟩
        by_cases h6 : (m.length : Int) < x
        · exact grc_over b o n c x zs hzl (by omega) h1' h4' hall h5' m hm (by simpa using h6) w hr
        · obtain ⟨y, rfl⟩ : ∃ y : Nat, x = y := ⟨x.toNat, by omega⟩
          exact grc_cut b o n c y _ rfl zs hzl (by omega) h1' h4' hall m _ hm rfl h5' (by simpa using h6) w hr ad0 ad1 hg0 hg1
  · exact grc_long A n c x h1' (by simpa using h4) w
end Go.Proofs.YtkjpkenhpmjikaaDoor
