/- Walks: the law of SRTP profiles that lack bytes. -/
import Derived.Test.YtkjpkenhpmjikaaDoorSrtpRead
namespace Go.Proofs.YtkjpkenhpmjikaaDoor
open Go.RowKit Go.Cv
set_option maxRecDepth 100000
set_option linter.unusedVariables false
theorem scut_of (p q u v y : UInt8) (f t : List UInt8) (k : Nat) (hf : f.length = 2 * k) (huv : u.toNat * 256 + v.toNat = k * 2) (hk1 : k ≤ 1000) (ht : y.toNat = t.length) (ht2 : t.length < 256) (j : Nat) (hj : j < 2 * k + 7 + t.length) : SCut ((0 :: 14 :: p :: q :: u :: v :: (f ++ y :: t)).take j) := by
  have hll : ((0 :: 14 :: p :: q :: u :: v :: (f ++ y :: t)).take j).length = j := by simp [hf]; omega
  by_cases h7 : j < 7
  · exact .inl (by rw [hll]; exact h7)
  · obtain ⟨i, rfl⟩ : ∃ i, j = i + 6 := ⟨j - 6, by omega⟩
    refine .inr ⟨p, q, u, v, (f ++ y :: t).take i, k, rfl, huv, hk1, by rw [hll]; omega, by rw [hll]; omega, ?_⟩
    rw [hll]
    by_cases h : i + 6 < 2 * k + 7
    · exact .inl h
    · refine .inr ⟨by omega, ?_⟩
      have e : ((0 :: 14 :: p :: q :: u :: v :: (f ++ y :: t)).take (i + 6)).getD (6 + 2 * k) 0 = y := by
        rw [List.getD_eq_getElem?_getD, List.getElem?_take, if_pos (by omega)]
        have e2 : (0 :: 14 :: p :: q :: u :: v :: (f ++ y :: t))[6 + 2 * k]? = (f ++ y :: t)[2 * k]? := by
          rw [Nat.add_comm]; rfl
        rw [e2, ← hf, List.getElem?_append_right (Nat.le_refl _)]
        simp
      rw [e, ht]; omega
theorem all_nil (A B : Option Addr) (c n2 c2 : Nat) (w : World) :
    Calls Tryd.prog 15 #[.slice A 0 c, .slice B n2 c2] w fun e w' => e = .returned (.bool false) ∧ w = w' := by
  go_enter Tryd.func15, Tryd.ntmps15
  go_wp2_with fail
  refine wp_loop_rounds 1 ?_
  rw [rounds_succ]
  go_wp2_with fail
  go_ret
  exact ⟨rfl, rfl⟩
theorem src_big1 (A : Option Addr) (n c : Nat) (t : List UInt8) (x : Int) (h1 : decide ((2147483647 : Int) < n) = true) (w : World) :
    Calls Tryd.prog 4 #[.slice A n c, .string (S t), .int .i64 x] w fun e w' => e = .returned (.bool true) ∧ Below w.heap.size w w' := by
  have h7t : (S t).size = t.length := S_size t
  go_enter Tryd.func4, Tryd.ntmps4
  go_wp2_with fail
  go_ret
  exact ⟨rfl, Below.refl _ _⟩
theorem src_big2 (A : Option Addr) (n c : Nat) (t : List UInt8) (x : Int) (h1 : decide ((2147483647 : Int) < n) = false) (h2 : decide ((2147483647 : Int) < t.length) = true) (w : World) :
    Calls Tryd.prog 4 #[.slice A n c, .string (S t), .int .i64 x] w fun e w' => e = .returned (.bool true) ∧ Below w.heap.size w w' := by
  have h7t : (S t).size = t.length := S_size t
  go_enter Tryd.func4, Tryd.ntmps4
  go_wp2_with fail
  go_ret
  exact ⟨rfl, Below.refl _ _⟩
theorem src_long1 (A : Option Addr) (n c : Nat) (t : List UInt8) (x : Int) (h1 : decide ((2147483647 : Int) < n) = false) (h2 : decide ((2147483647 : Int) < t.length) = false) (h3 : decide ((n : Int) < 1000) = false) (w : World) :
    Calls Tryd.prog 4 #[.slice A n c, .string (S t), .int .i64 x] w fun e w' => e = .returned (.bool true) ∧ Below w.heap.size w w' := by
  have h7t : (S t).size = t.length := S_size t
  go_enter Tryd.func4, Tryd.ntmps4
  go_wp2_with fail
  go_ret
  exact ⟨rfl, Below.refl _ _⟩
theorem src_long2 (A : Option Addr) (n c : Nat) (t : List UInt8) (x : Int) (h1 : decide ((2147483647 : Int) < n) = false) (h2 : decide ((2147483647 : Int) < t.length) = false) (h3 : decide ((n : Int) < 1000) = true) (h4 : decide ((t.length : Int) < 256) = false) (w : World) :
    Calls Tryd.prog 4 #[.slice A n c, .string (S t), .int .i64 x] w fun e w' => e = .returned (.bool true) ∧ Below w.heap.size w w' := by
  have h7t : (S t).size = t.length := S_size t
  go_enter Tryd.func4, Tryd.ntmps4
  go_wp2_with fail
  go_ret
  exact ⟨rfl, Below.refl _ _⟩
theorem src_nil (A : Option Addr) (c : Nat) (t : List UInt8) (x : Int) (h2 : decide ((2147483647 : Int) < t.length) = false) (h4 : decide ((t.length : Int) < 256) = true) (w : World) :
    Calls Tryd.prog 4 #[.slice A 0 c, .string (S t), .int .i64 x] w fun e w' => e = .returned (.bool true) ∧ Below w.heap.size w w' := by
  have h7t : (S t).size = t.length := S_size t
  go_enter Tryd.func4, Tryd.ntmps4
  go_wp2_with fail
  refine (all_nil A _ c _ _ _).mono ?_
  rintro e w1 ⟨rfl, rfl⟩
  go_wp2_with fail
  go_ret
  exact ⟨rfl, below_alloc _ _⟩
theorem src_notall (b o n c : Nat) (t : List UInt8) (x : Int) (zs : List Nat) (hl : zs.length = n) (h0 : 0 < n) (h1 : decide ((2147483647 : Int) < n) = false) (h2 : decide ((2147483647 : Int) < t.length) = false) (h3 : decide ((n : Int) < 1000) = true) (h4 : decide ((t.length : Int) < 256) = true) (hall : zs.all ([1, 2, 3, 4, 5, 6, 7, 8].contains ·) = false) (w : World) (hr : Rd w (some ⟨b, o, none⟩) (zv zs)) :
    Calls Tryd.prog 4 #[.slice (some ⟨b, o, none⟩) n c, .string (S t), .int .i64 x] w fun e w' => e = .returned (.bool true) ∧ Below w.heap.size w w' := by
  have h7t : (S t).size = t.length := S_size t
  have i3 : (n : Int) < 1000 := by simpa using h3
  have i4 : (t.length : Int) < 256 := by simpa using h4
  have hrow : ∀ W : World, Rd (W.alloc (.cells #[.int .u16 1, .int .u16 2, .int .u16 3, .int .u16 4, .int .u16 5, .int .u16 6, .int .u16 7, .int .u16 8] 24)) (some ⟨W.heap.size, 0, none⟩) (zv [1, 2, 3, 4, 5, 6, 7, 8]) := fun W => rd_new W _ _
  have HA := Lib.hid (all_any b o n c w.heap.size 0 8 8 zs [1, 2, 3, 4, 5, 6, 7, 8] hl (by omega) rfl (by omega) h0 (w.alloc (.cells #[.int .u16 1, .int .u16 2, .int .u16 3, .int .u16 4, .int .u16 5, .int .u16 6, .int .u16 7, .int .u16 8] 24)) (hr.keep (below_alloc _ _)) (hrow w))
  clear i3 i4 hrow hl
  go_enter Tryd.func4, Tryd.ntmps4
  go_wp2_with fail
  refine HA.out.mono ?_
  rintro e w1 ⟨rfl, rfl⟩
  rw [hall]
  go_wp2_with fail
  go_ret
  exact ⟨rfl, below_alloc _ _⟩
theorem src_small (b o n c : Nat) (t : List UInt8) (x : Int) (zs : List Nat) (hl : zs.length = n) (h0 : 0 < n) (B1 B2 B : List UInt8) (hB1 : B1 = be 2 (flat 2 zs).length ++ flat 2 zs) (hB2 : B2 = be 1 t.length ++ t) (hB : B1 ++ B2 = B) (h1 : decide ((2147483647 : Int) < n) = false) (h2 : decide ((2147483647 : Int) < t.length) = false) (h3 : decide ((n : Int) < 1000) = true) (h4 : decide ((t.length : Int) < 256) = true) (hall : zs.all ([1, 2, 3, 4, 5, 6, 7, 8].contains ·) = true) (h5 : decide (x < 1) = true) (w : World) (hr : Rd w (some ⟨b, o, none⟩) (zv zs)) :
    Calls Tryd.prog 4 #[.slice (some ⟨b, o, none⟩) n c, .string (S t), .int .i64 x] w fun e w' => e = .returned (.bool true) ∧ Below w.heap.size w w' := by
  have h7t : (S t).size = t.length := S_size t
  have i3 : (n : Int) < 1000 := by simpa using h3
  have i4 : (t.length : Int) < 256 := by simpa using h4
  have hrow : ∀ W : World, Rd (W.alloc (.cells #[.int .u16 1, .int .u16 2, .int .u16 3, .int .u16 4, .int .u16 5, .int .u16 6, .int .u16 7, .int .u16 8] 24)) (some ⟨W.heap.size, 0, none⟩) (zv [1, 2, 3, 4, 5, 6, 7, 8]) := fun W => rd_new W _ _
  have HA := Lib.hid (all_any b o n c w.heap.size 0 8 8 zs [1, 2, 3, 4, 5, 6, 7, 8] hl (by omega) rfl (by omega) h0 (w.alloc (.cells #[.int .u16 1, .int .u16 2, .int .u16 3, .int .u16 4, .int .u16 5, .int .u16 6, .int .u16 7, .int .u16 8] 24)) (hr.keep (below_alloc _ _)) (hrow w))
  have hz : ∀ z ∈ zs, z < 65536 := fun z hz => by
    have h := List.all_eq_true.1 hall z hz
    simp at h
    omega
  have HN := Lib.hid (fun w hr => nums_any b o n c 2 zs hl (by omega) (by omega) hz w hr)
  have hfl : (flat 2 zs).length = n * 2 := by rw [flat_length, hl]
  have HV := Lib.hid (fun w => vec_any 2 (by omega) (flat 2 zs) (by omega) w)
  have HV1 := Lib.hid (fun w => vec_any 1 (by omega) t (by omega) w)
  have hB1l : B1.length = n * 2 + 2 := by rw [hB1, List.length_append, be_length, hfl]; omega
  have hB2l : B2.length = t.length + 1 := by rw [hB2, List.length_append, be_length]; omega
  have hBl : B.length = n * 2 + t.length + 3 := by rw [← hB, List.length_append, hB1l, hB2l]; omega
  rw [← hB1] at HV
  rw [← hB2] at HV1
  have hADD : ∀ W : World, (Op.stringOp .add (S B1) (S B2)).run Tryd.prog W = .ok (.string (S B)) W := fun W => run_add_eq B1 B2 B hB (by omega) W
  have HF := Lib.hid (fun w => framedExt_any 14 (by omega) B (by omega) w)
  clear i3 i4 hrow hl hz hfl hB1l hB2l hBl hB hB1 hB2
  go_enter Tryd.func4, Tryd.ntmps4
  go_wp2_with fail
  refine HA.out.mono ?_
  rintro e w1 ⟨rfl, rfl⟩
  rw [hall]
  have hra := hr.keep (below_alloc w (.cells #[.int .u16 1, .int .u16 2, .int .u16 3, .int .u16 4, .int .u16 5, .int .u16 6, .int .u16 7, .int .u16 8] 24))
  go_wp2_with fail
  refine (HN.out _ hra).mono ?_
  rintro e w1 ⟨rfl, hb1⟩
  have hb1' := below_two (below_alloc w _) hb1
  go_wp2_with fail
  refine (HV.out w1).mono ?_
  rintro e w2 ⟨rfl, hb2⟩
  have hb2' := below_two hb1' hb2
  go_wp2_with fail
  refine (HV1.out w2).mono ?_
  rintro e wv ⟨rfl, hbv⟩
  have hb2v := below_two hb2' hbv
  go_wp2_with fail
  refine (HF.out wv).mono ?_
  rintro e w3 ⟨rfl, hb3⟩
  have hb4 := below_two hb2v hb3
  clear hra hr hADD hb1 hb2 hb1' hb2' hbv hb2v hb3
  go_wp2_with fail
  go_ret
  exact ⟨rfl, hb4⟩
theorem src_over (b o n c : Nat) (t : List UInt8) (x : Int) (zs : List Nat) (hl : zs.length = n) (h0 : 0 < n) (B1 B2 B : List UInt8) (hB1 : B1 = be 2 (flat 2 zs).length ++ flat 2 zs) (hB2 : B2 = be 1 t.length ++ t) (hB : B1 ++ B2 = B) (h1 : decide ((2147483647 : Int) < n) = false) (h2 : decide ((2147483647 : Int) < t.length) = false) (h3 : decide ((n : Int) < 1000) = true) (h4 : decide ((t.length : Int) < 256) = true) (hall : zs.all ([1, 2, 3, 4, 5, 6, 7, 8].contains ·) = true) (h5 : decide (x < 1) = false) (m : List UInt8) (hm : m = be 2 14 ++ (be 2 B.length ++ B)) (h6 : decide ((m.length : Int) < x) = true) (w : World) (hr : Rd w (some ⟨b, o, none⟩) (zv zs)) :
    Calls Tryd.prog 4 #[.slice (some ⟨b, o, none⟩) n c, .string (S t), .int .i64 x] w fun e w' => e = .returned (.bool true) ∧ Below w.heap.size w w' := by
  have h7t : (S t).size = t.length := S_size t
  have h7 : (S m).size = m.length := S_size m
  have i3 : (n : Int) < 1000 := by simpa using h3
  have i4 : (t.length : Int) < 256 := by simpa using h4
  have hrow : ∀ W : World, Rd (W.alloc (.cells #[.int .u16 1, .int .u16 2, .int .u16 3, .int .u16 4, .int .u16 5, .int .u16 6, .int .u16 7, .int .u16 8] 24)) (some ⟨W.heap.size, 0, none⟩) (zv [1, 2, 3, 4, 5, 6, 7, 8]) := fun W => rd_new W _ _
  have HA := Lib.hid (all_any b o n c w.heap.size 0 8 8 zs [1, 2, 3, 4, 5, 6, 7, 8] hl (by omega) rfl (by omega) h0 (w.alloc (.cells #[.int .u16 1, .int .u16 2, .int .u16 3, .int .u16 4, .int .u16 5, .int .u16 6, .int .u16 7, .int .u16 8] 24)) (hr.keep (below_alloc _ _)) (hrow w))
  have hz : ∀ z ∈ zs, z < 65536 := fun z hz => by
    have h := List.all_eq_true.1 hall z hz
    simp at h
    omega
  have HN := Lib.hid (fun w hr => nums_any b o n c 2 zs hl (by omega) (by omega) hz w hr)
  have hfl : (flat 2 zs).length = n * 2 := by rw [flat_length, hl]
  have HV := Lib.hid (fun w => vec_any 2 (by omega) (flat 2 zs) (by omega) w)
  have HV1 := Lib.hid (fun w => vec_any 1 (by omega) t (by omega) w)
  have hB1l : B1.length = n * 2 + 2 := by rw [hB1, List.length_append, be_length, hfl]; omega
  have hB2l : B2.length = t.length + 1 := by rw [hB2, List.length_append, be_length]; omega
  have hBl : B.length = n * 2 + t.length + 3 := by rw [← hB, List.length_append, hB1l, hB2l]; omega
  rw [← hB1] at HV
  rw [← hB2] at HV1
  have hADD : ∀ W : World, (Op.stringOp .add (S B1) (S B2)).run Tryd.prog W = .ok (.string (S B)) W := fun W => run_add_eq B1 B2 B hB (by omega) W
  have HF := Lib.hid (fun w => framedExt_any 14 (by omega) B (by omega) w)
  rw [← hm] at HF
  clear i3 i4 hrow hl hz hfl hB1l hB2l hBl hB hB1 hB2
  clear hm
  go_enter Tryd.func4, Tryd.ntmps4
  go_wp2_with fail
  refine HA.out.mono ?_
  rintro e w1 ⟨rfl, rfl⟩
  rw [hall]
  have hra := hr.keep (below_alloc w (.cells #[.int .u16 1, .int .u16 2, .int .u16 3, .int .u16 4, .int .u16 5, .int .u16 6, .int .u16 7, .int .u16 8] 24))
  go_wp2_with fail
  refine (HN.out _ hra).mono ?_
  rintro e w1 ⟨rfl, hb1⟩
  have hb1' := below_two (below_alloc w _) hb1
  go_wp2_with fail
  refine (HV.out w1).mono ?_
  rintro e w2 ⟨rfl, hb2⟩
  have hb2' := below_two hb1' hb2
  go_wp2_with fail
  refine (HV1.out w2).mono ?_
  rintro e wv ⟨rfl, hbv⟩
  have hb2v := below_two hb2' hbv
  go_wp2_with fail
  refine (HF.out wv).mono ?_
  rintro e w3 ⟨rfl, hb3⟩
  have hb4 := below_two hb2v hb3
  clear hra hr hADD hb1 hb2 hb1' hb2' hbv hb2v hb3
  go_wp2_with fail
  go_ret
  exact ⟨rfl, hb4⟩
set_option maxHeartbeats 1000000 in
theorem src_cut (b o n c : Nat) (t : List UInt8) (lk : Nat) (x : Int) (hxy : x = lk) (zs : List Nat) (hl : zs.length = n) (h0 : 0 < n) (B1 B2 B : List UInt8) (hB1 : B1 = be 2 (flat 2 zs).length ++ flat 2 zs) (hB2 : B2 = be 1 t.length ++ t) (hB : B1 ++ B2 = B) (h1 : decide ((2147483647 : Int) < n) = false) (h2 : decide ((2147483647 : Int) < t.length) = false) (h3 : decide ((n : Int) < 1000) = true) (h4 : decide ((t.length : Int) < 256) = true) (hall : zs.all ([1, 2, 3, 4, 5, 6, 7, 8].contains ·) = true) (m k : List UInt8) (hm : m = be 2 14 ++ (be 2 B.length ++ B)) (hk : k = m.take (m.length - lk)) (h5 : decide ((lk : Int) < 1) = false) (h6 : decide ((m.length : Int) < lk) = false) (w : World) (hr : Rd w (some ⟨b, o, none⟩) (zv zs)) (ad0 ad1 : Addr) (hg0 : w.cell? ⟨0, 0, none⟩ = some (.iface 210 (.pointer (some ad0)))) (hg1 : w.cell? ⟨3, 0, none⟩ = some (.iface 210 (.pointer (some ad1)))) :
    Calls Tryd.prog 4 #[.slice (some ⟨b, o, none⟩) n c, .string (S t), .int .i64 x] w fun e w' => e = .returned (.bool true) ∧ Below w.heap.size w w' := by
  have h7t : (S t).size = t.length := S_size t
  subst hxy
  have h7 : (S m).size = m.length := S_size m
  have hx := S_extract m 0 (m.length - lk)
  simp only [List.drop_zero] at hx
  rw [← hk] at hx
  have i1 : (1 : Int) ≤ lk := by simpa using h5
  have i2 : (lk : Int) ≤ m.length := by simpa using h6
  have i3 : (n : Int) < 1000 := by simpa using h3
  have i4 : (t.length : Int) < 256 := by simpa using h4
  have hrow : ∀ W : World, Rd (W.alloc (.cells #[.int .u16 1, .int .u16 2, .int .u16 3, .int .u16 4, .int .u16 5, .int .u16 6, .int .u16 7, .int .u16 8] 24)) (some ⟨W.heap.size, 0, none⟩) (zv [1, 2, 3, 4, 5, 6, 7, 8]) := fun W => rd_new W _ _
  have HA := Lib.hid (all_any b o n c w.heap.size 0 8 8 zs [1, 2, 3, 4, 5, 6, 7, 8] hl (by omega) rfl (by omega) h0 (w.alloc (.cells #[.int .u16 1, .int .u16 2, .int .u16 3, .int .u16 4, .int .u16 5, .int .u16 6, .int .u16 7, .int .u16 8] 24)) (hr.keep (below_alloc _ _)) (hrow w))
  have hz : ∀ z ∈ zs, z < 65536 := fun z hz => by
    have h := List.all_eq_true.1 hall z hz
    simp at h
    omega
  have HN := Lib.hid (fun w hr => nums_any b o n c 2 zs hl (by omega) (by omega) hz w hr)
  have hfl : (flat 2 zs).length = n * 2 := by rw [flat_length, hl]
  have HV := Lib.hid (fun w => vec_any 2 (by omega) (flat 2 zs) (by omega) w)
  have HV1 := Lib.hid (fun w => vec_any 1 (by omega) t (by omega) w)
  have hB1l : B1.length = n * 2 + 2 := by rw [hB1, List.length_append, be_length, hfl]; omega
  have hB2l : B2.length = t.length + 1 := by rw [hB2, List.length_append, be_length]; omega
  have hBl : B.length = n * 2 + t.length + 3 := by rw [← hB, List.length_append, hB1l, hB2l]; omega
  rw [← hB1] at HV
  rw [← hB2] at HV1
  have hADD : ∀ W : World, (Op.stringOp .add (S B1) (S B2)).run Tryd.prog W = .ok (.string (S B)) W := fun W => run_add_eq B1 B2 B hB (by omega) W
  have HF := Lib.hid (fun w => framedExt_any 14 (by omega) B (by omega) w)
  rw [← hm] at HF
  have hzp : ∀ z ∈ zs, isProfile z := fun z hz => by
    have h := List.all_eq_true.1 hall z hz
    simpa [isProfile] using h
  obtain ⟨p, q, e2, hpq⟩ := be2_parts B.length (by omega)
  obtain ⟨u, v, e1, huv⟩ := be2_parts (flat 2 zs).length (by omega)
  obtain ⟨y, e0, hy⟩ := be1_part t.length (by omega)
  have hm' : m = 0 :: 14 :: p :: q :: u :: v :: (flat 2 zs ++ y :: t) := by rw [hm, e2, ← hB, hB1, hB2, e1, e0]; rfl
  have hml : m.length = 2 * n + 7 + t.length := by rw [hm']; simp [hfl]; omega
  rw [hfl] at huv
  have hcut : SCut k := by
    rw [hk, hm']
    exact scut_of p q u v y (flat 2 zs) t n (by omega) huv (by omega) hy.symm (by omega) _ (by rw [← hm']; omega)
  have hkl : k.length = m.length - lk := by rw [hk]; simp
  have HO := Lib.hid (fun w => srtpRead_ok m p q u v y zs t hm' n t.length B.length hl rfl huv hpq (by omega) hy.symm hzp (by omega) (by omega) w)
  have HC := Lib.hid (fun w hg0 hg1 => srtpRead_no k hcut (by omega) w ad0 ad1 hg0 hg1)
  have iF : (0 : Int) ≤ (m.length : Int) - lk := by omega
  have iG : (m.length : Int) - lk ≤ m.length := by omega
  have iH : ((m.length : Int) - lk).toNat = m.length - lk := by omega
  have hw : wrap64 ((m.length : Int) - lk) = (m.length : Int) - lk := by unfold wrap64; omega
  have n1 : ¬ m.length < lk := by omega
  have n2 : ¬ lk < 1 := by omega
  clear i3 i4 hrow hl hz hfl hB1l hB2l hBl hB hB1 hB2
  clear hm hm' hk hkl i1 i2 hml hcut hzp e2 hpq e1 huv e0 hy
  go_enter Tryd.func4, Tryd.ntmps4
  go_wp2_with fail
  refine HA.out.mono ?_
  rintro e w1 ⟨rfl, rfl⟩
  rw [hall]
  have hra := hr.keep (below_alloc w (.cells #[.int .u16 1, .int .u16 2, .int .u16 3, .int .u16 4, .int .u16 5, .int .u16 6, .int .u16 7, .int .u16 8] 24))
  go_wp2_with fail
  refine (HN.out _ hra).mono ?_
  rintro e w1 ⟨rfl, hb1⟩
  have hb1' := below_two (below_alloc w _) hb1
  go_wp2_with fail
  refine (HV.out w1).mono ?_
  rintro e w2 ⟨rfl, hb2⟩
  have hb2' := below_two hb1' hb2
  go_wp2_with fail
  refine (HV1.out w2).mono ?_
  rintro e wv ⟨rfl, hbv⟩
  have hb2v := below_two hb2' hbv
  go_wp2_with fail
  refine (HF.out wv).mono ?_
  rintro e w3 ⟨rfl, hb3⟩
  have hb4 := below_two hb2v hb3
  clear hra hr hADD hb1 hb2 hb1' hb2' hbv hb2v hb3
  go_wp2_with fail
  refine (HO.out w3).mono ?_
  rintro e w4 ⟨A4, c4, rfl, hb5⟩
  have hb6 := below_two hb4 hb5
  go_wp2_with (with_reducible refine Held.store 35 ?_)
  refine held_store_new (cells := srMsg t A4 n c4) extInfo rfl rfl rfl (by simp [srMsg, Value.oneCell']) fun w5 _ hb7 _ => ?_
  have hb8 := below_two hb6 hb7
  have hg05 := keep_of_below hb8 _ _ hg0
  have hg15 := keep_of_below hb8 _ _ hg1
  go_wp2_with fail
  refine (HC.out w5 hg05 hg15).mono ?_
  rintro e w7 ⟨rfl, hb9⟩
  have hb10 := below_two hb8 hb9
  go_wp2_with (with_reducible refine Held.store 35 ?_)
  refine held_store_new (cells := zeroExt) extInfo rfl rfl rfl (by simp [zeroExt, Value.oneCell']) fun w9 _ hb11 _ => ?_
  go_wp2_with fail
  go_ret
  exact ⟨rfl, below_two hb10 hb11⟩
theorem src_row (A : Option Addr) (n c : Nat) (z : List Int) (hz : z.length = n) (hnc : n ≤ c) (w : World) (hr : Rd w A (z.map (Value.int .u16))) (hw : ∀ v ∈ z, (Lit.int .u16 v).wf = true) (t : List UInt8) (x : Int) (wx : (Lit.int .i64 x).wf = true) {p3 : Prop} (ad0 : Addr) (hg0 : w.cell? ⟨0, 0, none⟩ = some (.iface 210 (.pointer (some ad0)))) (adx : Addr) (g3 : p3) (ad1 : Addr) (hg1 : w.cell? ⟨3, 0, none⟩ = some (.iface 210 (.pointer (some ad1)))) :
    Calls Tryd.prog 4 #[.slice A n c, .string (S t), .int .i64 x] w fun e w' => e = .returned (.bool true) ∧ Below w.heap.size w w' := by
  by_cases h1 : (2147483647 : Int) < n
  · exact src_big1 A n c t x (by simpa using h1) w
  have h1' : decide ((2147483647 : Int) < n) = false := by simpa using h1
  by_cases h2 : (2147483647 : Int) < t.length
  · exact src_big2 A n c t x h1' (by simpa using h2) w
  have h2' : decide ((2147483647 : Int) < t.length) = false := by simpa using h2
  by_cases h3 : (n : Int) < 1000
  case neg => exact src_long1 A n c t x h1' h2' (by simpa using h3) w
  have h3' : decide ((n : Int) < 1000) = true := by simpa using h3
  by_cases h4 : (t.length : Int) < 256
  case neg => exact src_long2 A n c t x h1' h2' h3' (by simpa using h4) w
  have h4' : decide ((t.length : Int) < 256) = true := by simpa using h4
  by_cases h0 : 0 < n
  case neg =>
    obtain rfl : n = 0 := by omega
    exact src_nil A c t x h2' h4' w
  obtain ⟨zs, hzl, hzv⟩ : ∃ zs : List Nat, zs.length = n ∧ zv zs = z.map (Value.int .u16) := by
    refine ⟨z.map Int.toNat, by simpa using hz, ?_⟩
    unfold zv
    rw [List.map_map]
    refine List.map_congr_left fun v hv => ?_
    obtain ⟨k, rfl, _⟩ := nat_u16 (hw v hv)
    rfl
  rw [← hzv] at hr
  rcases hr with hr | ⟨b, o, rfl, hr⟩
  · have := congrArg List.length hr
    have h0' : zs.length = 0 := by simpa [zv] using this
    omega
  have hr : Rd w (some ⟨b, o, none⟩) (zv zs) := .inr ⟨b, o, rfl, hr⟩
  cases hall : zs.all ([1, 2, 3, 4, 5, 6, 7, 8].contains ·) with
  | false => exact src_notall b o n c t x zs hzl h0 h1' h2' h3' h4' hall w hr
  | true =>
    obtain ⟨B, hB⟩ : ∃ B, (be 2 (flat 2 zs).length ++ flat 2 zs) ++ (be 1 t.length ++ t) = B := ⟨_, rfl⟩
    by_cases h5 : x < 1
    · exact src_small b o n c t x zs hzl h0 _ _ B rfl rfl hB h1' h2' h3' h4' hall (by simpa using h5) w hr
    · have h5' : decide (x < 1) = false := by simpa using h5
      obtain ⟨m, hm⟩ : ∃ m, m = be 2 14 ++ (be 2 B.length ++ B) := ⟨_, rfl⟩
      by_cases h6 : (m.length : Int) < x
      · exact src_over b o n c t x zs hzl h0 _ _ B rfl rfl hB h1' h2' h3' h4' hall h5' m hm (by simpa using h6) w hr
      · obtain ⟨y, rfl⟩ : ∃ y : Nat, x = y := ⟨x.toNat, by omega⟩
        exact src_cut b o n c t y _ rfl zs hzl h0 _ _ B rfl rfl hB h1' h2' h3' h4' hall m _ hm rfl h5' (by simpa using h6) w hr ad0 ad1 hg0 hg1
end Go.Proofs.YtkjpkenhpmjikaaDoor
