/- Walks: the law about a derived secret. -/
import Derived.Test.YtohankdfnjogfaaDoorHkt
namespace Go.Proofs.YtohankdfnjogfaaDoor
open Go.RowKit Go.Cv
set_option maxRecDepth 100000
set_option linter.unusedVariables false
theorem s_ds (kind : Nat) (hk : kind < 64) (key label text : List UInt8) (hs1 : key.length ≤ 50000) (ht : text.length ≤ 50000) (hl1 : 1 ≤ label.length) (hl2 : label.length ≤ 249) (w : World) :
    Calls Tryd.prog 7 #[.int .i64 (kind : Nat), .string (S key), .string (S label), .string (S text)] w fun e w' => e = .returned (.tuple #[.string (S (toyHmac kind key (hkInfo (toySize kind) label (toySum kind text) ++ [1]))), .bool true]) ∧ Below w.heap.size w w' := by
  have H1 := Lib.hid (s_sum kind text hk (by omega))
  have H2 := Lib.hid (s_size kind hk)
  have H3 := Lib.hid (fun W => s_hkdfLabel kind hk key label (toySum kind text) hs1 hl1 hl2 (toySum_length _ _) W)
  obtain ⟨s, hs⟩ : ∃ s, toySize kind = s := ⟨_, rfl⟩
  obtain ⟨c, hc⟩ : ∃ c, toySum kind text = c := ⟨_, rfl⟩
  rw [hs] at H2 H3 ⊢
  rw [hc] at H1 H3 ⊢
  obtain ⟨t, ht⟩ : ∃ t, toyHmac kind key (hkInfo s label c ++ [1]) = t := ⟨_, rfl⟩
  rw [ht] at H3 ⊢
  clear hs hc ht hk hs1 hl1 hl2
  go_enter Tryd.func7, Tryd.ntmps7
  go_wp2_with fail
  refine (H1.out _).mono ?_
  rintro e w1 ⟨rfl, hb1⟩
  go_wp2_with fail
  refine (H2.out _).mono ?_
  rintro e w2 ⟨rfl, rfl⟩
  go_wp2_with fail
  refine (H3.out _).mono ?_
  rintro e w3 ⟨rfl, hb3⟩
  go_wp2_with fail
  go_ret2
  have hB := below_two hb1 hb3
  first | exact ⟨rfl, hB⟩ | exact ⟨⟨rfl, rfl⟩, hB⟩ | exact hB
theorem ds_out1 (x : Int) (l1 l2 l3 : List UInt8) (h1 : decide ((2147483647 : Int) < l1.length) = true) (w : World) :
    Calls Tryd.prog 3 #[.int .i64 x, .string (S l1), .string (S l2), .string (S l3)] w fun e w' => e = .returned (.bool true) ∧ Below w.heap.size w w' := by
  have z1 : (S l1).size = l1.length := S_size l1
  go_enter Tryd.func3, Tryd.ntmps3
  go_wp2_with fail
  go_ret
  exact ⟨rfl, Below.refl _ _⟩
theorem ds_out2 (x : Int) (l1 l2 l3 : List UInt8) (h1 : decide ((2147483647 : Int) < l1.length) = false) (t2 : decide ((2147483647 : Int) < l2.length) = true) (w : World) :
    Calls Tryd.prog 3 #[.int .i64 x, .string (S l1), .string (S l2), .string (S l3)] w fun e w' => e = .returned (.bool true) ∧ Below w.heap.size w w' := by
  have z1 : (S l1).size = l1.length := S_size l1
  obtain ⟨n2, h2⟩ : ∃ n, l2.length = n := ⟨_, rfl⟩
  rw [h2] at t2
  have z2 : (S l2).size = n2 := by rw [S_size, h2]
  have z3 : (S l3).size = l3.length := S_size l3
  clear h2
  go_enter Tryd.func3, Tryd.ntmps3
  go_wp2_with fail
  go_ret
  exact ⟨rfl, Below.refl _ _⟩
theorem ds_out3 (x : Int) (l1 l2 l3 : List UInt8) (h1 : decide ((2147483647 : Int) < l1.length) = false) (t2 : decide ((2147483647 : Int) < l2.length) = false) (h3 : decide ((2147483647 : Int) < l3.length) = true) (w : World) :
    Calls Tryd.prog 3 #[.int .i64 x, .string (S l1), .string (S l2), .string (S l3)] w fun e w' => e = .returned (.bool true) ∧ Below w.heap.size w w' := by
  have z1 : (S l1).size = l1.length := S_size l1
  obtain ⟨n2, h2⟩ : ∃ n, l2.length = n := ⟨_, rfl⟩
  rw [h2] at t2
  have z2 : (S l2).size = n2 := by rw [S_size, h2]
  have z3 : (S l3).size = l3.length := S_size l3
  clear h2
  go_enter Tryd.func3, Tryd.ntmps3
  go_wp2_with fail
  go_ret
  exact ⟨rfl, Below.refl _ _⟩
theorem ds_bad0 (x : Int) (l1 l2 l3 : List UInt8) (h1 : decide ((2147483647 : Int) < l1.length) = false) (t2 : decide ((2147483647 : Int) < l2.length) = false) (h3 : decide ((2147483647 : Int) < l3.length) = false) (w : World) (HK : Hid (Calls Tryd.prog 4 #[.int .i64 x] w fun e w' => e = .returned (.bool false) ∧ w = w')) :
    Calls Tryd.prog 3 #[.int .i64 x, .string (S l1), .string (S l2), .string (S l3)] w fun e w' => e = .returned (.bool true) ∧ Below w.heap.size w w' := by
  have z1 : (S l1).size = l1.length := S_size l1
  obtain ⟨n2, h2⟩ : ∃ n, l2.length = n := ⟨_, rfl⟩
  rw [h2] at t2
  have z2 : (S l2).size = n2 := by rw [S_size, h2]
  have z3 : (S l3).size = l3.length := S_size l3
  clear h2
  go_enter Tryd.func3, Tryd.ntmps3
  go_wp2_with fail
  refine HK.out.mono ?_
  rintro e w1 ⟨rfl, rfl⟩
  go_wp2_with fail
  go_ret
  exact ⟨rfl, Below.refl _ _⟩
theorem ds_bad1 (x : Int) (l1 l2 l3 : List UInt8) (h1 : decide ((2147483647 : Int) < l1.length) = false) (t2 : decide ((2147483647 : Int) < l2.length) = false) (h3 : decide ((2147483647 : Int) < l3.length) = false) (t4 : decide ((l2.length : Int) < 1) = true) (w : World) (HK : Hid (Calls Tryd.prog 4 #[.int .i64 x] w fun e w' => e = .returned (.bool true) ∧ w = w')) :
    Calls Tryd.prog 3 #[.int .i64 x, .string (S l1), .string (S l2), .string (S l3)] w fun e w' => e = .returned (.bool true) ∧ Below w.heap.size w w' := by
  have z1 : (S l1).size = l1.length := S_size l1
  obtain ⟨n2, h2⟩ : ∃ n, l2.length = n := ⟨_, rfl⟩
  rw [h2] at t2 t4
  have z2 : (S l2).size = n2 := by rw [S_size, h2]
  have z3 : (S l3).size = l3.length := S_size l3
  have t4' : n2 = 0 := by have := of_decide_eq_true t4; omega
  clear h2
  go_enter Tryd.func3, Tryd.ntmps3
  go_wp2_with fail
  refine HK.out.mono ?_
  rintro e w1 ⟨rfl, rfl⟩
  go_wp2_with fail
  go_ret
  exact ⟨rfl, Below.refl _ _⟩
theorem ds_bad2 (x : Int) (l1 l2 l3 : List UInt8) (h1 : decide ((2147483647 : Int) < l1.length) = false) (t2 : decide ((2147483647 : Int) < l2.length) = false) (h3 : decide ((2147483647 : Int) < l3.length) = false) (t4 : decide ((l2.length : Int) < 1) = false) (t4' : ¬ l2.length = 0) (t5 : decide ((249 : Int) < l2.length) = true) (t5' : 249 < l2.length) (w : World) (HK : Hid (Calls Tryd.prog 4 #[.int .i64 x] w fun e w' => e = .returned (.bool true) ∧ w = w')) :
    Calls Tryd.prog 3 #[.int .i64 x, .string (S l1), .string (S l2), .string (S l3)] w fun e w' => e = .returned (.bool true) ∧ Below w.heap.size w w' := by
  have z1 : (S l1).size = l1.length := S_size l1
  obtain ⟨n2, h2⟩ : ∃ n, l2.length = n := ⟨_, rfl⟩
  rw [h2] at t2 t4 t4' t5 t5'
  have z2 : (S l2).size = n2 := by rw [S_size, h2]
  have z3 : (S l3).size = l3.length := S_size l3
  clear h2
  go_enter Tryd.func3, Tryd.ntmps3
  go_wp2_with fail
  refine HK.out.mono ?_
  rintro e w1 ⟨rfl, rfl⟩
  go_wp2_with fail
  go_ret
  exact ⟨rfl, Below.refl _ _⟩
theorem ds_bad3 (x : Int) (l1 l2 l3 : List UInt8) (h1 : decide ((2147483647 : Int) < l1.length) = false) (t2 : decide ((2147483647 : Int) < l2.length) = false) (h3 : decide ((2147483647 : Int) < l3.length) = false) (t4 : decide ((l2.length : Int) < 1) = false) (t4' : ¬ l2.length = 0) (t5 : decide ((249 : Int) < l2.length) = false) (t5' : ¬ 249 < l2.length) (w : World) (HK : Hid (Calls Tryd.prog 4 #[.int .i64 x] w fun e w' => e = .returned (.bool true) ∧ w = w')) (HF : Hid (∀ (w : World) (r : Nat), w.cell? ⟨r, 0, none⟩ = some (.string (S l1)) → w.cell? ⟨r, 1, none⟩ = some (.string (S l3)) → Calls Tryd.prog 5 #[.slice (some ⟨r, 0, none⟩) 2 2] w fun e w' => e = .returned (.bool false) ∧ w = w')) :
    Calls Tryd.prog 3 #[.int .i64 x, .string (S l1), .string (S l2), .string (S l3)] w fun e w' => e = .returned (.bool true) ∧ Below w.heap.size w w' := by
  have z1 : (S l1).size = l1.length := S_size l1
  obtain ⟨n2, h2⟩ : ∃ n, l2.length = n := ⟨_, rfl⟩
  rw [h2] at t2 t4 t4' t5 t5'
  have z2 : (S l2).size = n2 := by rw [S_size, h2]
  have z3 : (S l3).size = l3.length := S_size l3
  clear h2
  go_enter Tryd.func3, Tryd.ntmps3
  go_wp2_with fail
  refine HK.out.mono ?_
  rintro e w1 ⟨rfl, rfl⟩
  go_wp2_with fail
  refine (HF.out _ w.heap.size (by simp) (by simp)).mono ?_
  rintro e w2 ⟨rfl, rfl⟩
  go_wp2_with fail
  go_ret
  exact ⟨rfl, below_alloc _ _⟩
set_option maxHeartbeats 2000000 in
theorem ds_in (kind : Nat) (l1 l2 l3 : List UInt8) (hk : kind < 64) (h1 : decide ((2147483647 : Int) < l1.length) = false) (t2 : decide ((2147483647 : Int) < l2.length) = false) (h3 : decide ((2147483647 : Int) < l3.length) = false) (t4 : decide ((l2.length : Int) < 1) = false) (t4' : ¬ l2.length = 0) (t5 : decide ((249 : Int) < l2.length) = false) (t5' : ¬ 249 < l2.length) (hs1 : l1.length ≤ 2000) (hs3 : l3.length ≤ 2000) (w : World) (HK : Hid (Calls Tryd.prog 4 #[.int .i64 kind] w fun e w' => e = .returned (.bool true) ∧ w = w')) (HF : Hid (∀ (w : World) (r : Nat), w.cell? ⟨r, 0, none⟩ = some (.string (S l1)) → w.cell? ⟨r, 1, none⟩ = some (.string (S l3)) → Calls Tryd.prog 5 #[.slice (some ⟨r, 0, none⟩) 2 2] w fun e w' => e = .returned (.bool true) ∧ w = w')) :
    Calls Tryd.prog 3 #[.int .i64 (kind : Nat), .string (S l1), .string (S l2), .string (S l3)] w fun e w' => e = .returned (.bool true) ∧ Below w.heap.size w w' := by
  have HP1 := Lib.hid (fun w => implDs kind hk l1 l2 l3 (by omega) (by omega) (by omega) (by omega) w)
  have HP2 := Lib.hid (fun w => s_ds kind hk l1 l2 l3 (by omega) (by omega) (by omega) (by omega) w)
  obtain ⟨o, ho⟩ : ∃ o, toyHmac kind l1 (hkInfo (toySize kind) l2 (toySum kind l3) ++ [1]) = o := ⟨_, rfl⟩
  rw [ho] at HP1 HP2
  clear hs1 hs3 hk ho
  have z1 : (S l1).size = l1.length := S_size l1
  obtain ⟨n2, h2⟩ : ∃ n, l2.length = n := ⟨_, rfl⟩
  rw [h2] at t2 t4 t4' t5 t5'
  have z2 : (S l2).size = n2 := by rw [S_size, h2]
  have z3 : (S l3).size = l3.length := S_size l3
  clear h2
  go_enter Tryd.func3, Tryd.ntmps3
  go_wp2_with fail
  refine HK.out.mono ?_
  rintro e w1 ⟨rfl, rfl⟩
  go_wp2_with fail
  refine (HF.out _ w.heap.size (by simp) (by simp)).mono ?_
  rintro e w2 ⟨rfl, rfl⟩
  go_wp2_with fail
  refine (HP1.out _).mono ?_
  rintro e w3 ⟨rfl, hb3⟩
  have HB3 := Lib.hid (below_two (below_alloc _ _) hb3)
  clear hb3
  go_wp2_with fail
  refine (HP2.out _).mono ?_
  rintro e w4 ⟨rfl, hb4⟩
  have HB4 := Lib.hid (below_two HB3.out hb4)
  clear hb4
  go_wp2_with fail
  go_ret
  exact ⟨by simp, HB4.out⟩
theorem ds_row (x : Int) (hx : (Lit.int .i64 x).wf = true) (l1 l2 l3 : List UInt8) (w : World) {p0 p1 p2 p3 p4 : Prop} (ad0 : Addr) (g0 : p0) (ad1 : Addr) (g1 : p1) (ad2 : Addr) (g2 : p2) (ad3 : Addr) (g3 : p3) (ad4 : Addr) (g4 : p4) :
    Calls Tryd.prog 3 #[.int .i64 x, .string (S l1), .string (S l2), .string (S l3)] w fun e w' => e = .returned (.bool true) ∧ Below w.heap.size w w' := by
  cases h1 : decide ((2147483647 : Int) < l1.length) with
  | true => exact ds_out1 x l1 l2 l3 h1 w
  | false =>
  cases h2 : decide ((2147483647 : Int) < l2.length) with
  | true => exact ds_out2 x l1 l2 l3 h1 h2 w
  | false =>
  cases h3 : decide ((2147483647 : Int) < l3.length) with
  | true => exact ds_out3 x l1 l2 l3 h1 h2 h3 w
  | false =>
  by_cases hx0 : x < 0 ∨ 64 ≤ x
  · exact ds_bad0 x l1 l2 l3 h1 h2 h3 w (Lib.hid (keyHash_no x hx0 w))
  obtain ⟨kind, rfl⟩ := Int.eq_ofNat_of_zero_le (show 0 ≤ x by omega)
  have hk : kind < 64 := by omega
  have HK := keyHash_in kind hk w
  cases hb : decide (toySize kind ≤ toyBlock kind) with
  | false => rw [hb] at HK; exact ds_bad0 kind l1 l2 l3 h1 h2 h3 w (Lib.hid HK)
  | true =>
  rw [hb] at HK
  by_cases hl1 : l2.length = 0
  · exact ds_bad1 kind l1 l2 l3 h1 h2 h3 (by rw [hl1]; rfl) w (Lib.hid HK)
  have t4 : decide ((l2.length : Int) < 1) = false := decide_eq_false (by omega)
  by_cases hl2 : 249 < l2.length
  · exact ds_bad2 kind l1 l2 l3 h1 h2 h3 t4 hl1 (decide_eq_true (by omega)) hl2 w (Lib.hid HK)
  have t5 : decide ((249 : Int) < l2.length) = false := decide_eq_false (by omega)
  have HF : ∀ (w : World) (r : Nat), w.cell? ⟨r, 0, none⟩ = some (.string (S l1)) → w.cell? ⟨r, 1, none⟩ = some (.string (S l3)) → Calls Tryd.prog 5 #[.slice (some ⟨r, 0, none⟩) 2 2] w fun e w' => e = .returned (.bool ([l1, l3].all fun l => decide (l.length ≤ 2000))) ∧ w = w' := fun w r c0 c1 => few_any r 2 [l1, l3] rfl (by omega) w (fun i hi => by
    rcases (by omega : i = 0 ∨ i = 1) with rfl | rfl
    · exact c0
    · exact c1)
  cases hf : [l1, l3].all fun l => decide (l.length ≤ 2000) with
  | false => rw [hf] at HF; exact ds_bad3 kind l1 l2 l3 h1 h2 h3 t4 hl1 t5 hl2 w (Lib.hid HK) (Lib.hid HF)
  | true =>
  rw [hf] at HF
  have hs : l1.length ≤ 2000 ∧ l3.length ≤ 2000 := by simpa using hf
  exact ds_in kind l1 l2 l3 hk h1 h2 h3 t4 hl1 t5 hl2 hs.1 hs.2 w (Lib.hid HK) (Lib.hid HF)
end Go.Proofs.YtohankdfnjogfaaDoor
