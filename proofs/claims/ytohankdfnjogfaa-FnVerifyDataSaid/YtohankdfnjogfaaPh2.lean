/- Walks: the library's P_hash. -/
import Derived.Test.YtohankdfnjogfaaPh1
import Derived.Test.YtohankdfnjogfaaCeil
import Derived.Test.YtohankdfnjogfaaPhl
import Derived.Test.YtohankdfnjogfaaApp3
namespace Go.Proofs.Ytohankdfnjogfaa
open Go.RowKit Go.Cv
set_option maxRecDepth 100000
set_option linter.unusedVariables false
theorem m_size (d : Nat) (W : World) : (method 193 56 (.pointer (some ⟨d, 0, none⟩)) "Size").run Try.prog W = .ok (65, .pointer (some ⟨d, 0, none⟩)) W := by kernel_rfl
set_option maxHeartbeats 4000000 in
theorem phashOf (b kind n : Nat) (hk : kind < 64) (h1 : 1 ≤ n) (h2 : n ≤ 2000) (A1 A2 : Option Addr) (n1 c1 n2 c2 : Nat) (key seed : List UInt8) (hn1 : key.length = n1) (hn2 : seed.length = n2) (hs1 : n1 ≤ 50000) (hs2 : n2 ≤ 50000) (w : World)
    (hb : w.cell? ⟨b, 0, none⟩ = some (.int .i64 (kind : Nat))) (hr1 : Rd w A1 (vs key)) (hr2 : Rd w A2 (vs seed)) :
    Calls Try.prog 13 #[.slice A1 n1 c1, .slice A2 n2 c2, .int .i64 n, .func (Fn.func 24) #[] #[.pointer (some ⟨b, 0, none⟩)]] w fun e w' => ∃ A' c' k, e = .returned (.tuple #[.slice A' n c', .nilIface]) ∧ n ≤ k * toySize kind ∧ Rd w' A' (vs ((phOut kind key seed k).take n)) ∧ Below w.heap.size w w' := by
  obtain ⟨q, k, hq, hnan, hkk, hk1, hk2⟩ := iters_ok n (toySize kind) h1 h2 ⟨kind % 8, Nat.mod_lt _ (by omega), rfl⟩
  have hT := fun w ty => run_float_arith (P := Try.prog) w .quo ty .f64 _ _ q hq
  have hCI := fun w => run_convert_float_int (P := Try.prog) w 53 3 .f64 .i64 (ceilW q) k (by kernel_rfl) Try.underlying3 hkk
  have HC := Lib.hid (fun w => t_ceil q hnan w)
  have HB := Lib.hid hb
  have HR1 := Lib.hid hr1
  have HR2 := Lib.hid hr2
  have HN1 := Lib.hid hn1
  have HN2 := Lib.hid hn2
  have HS := Lib.hid (And.intro hs1 hs2)
  have HK := Lib.hid hk1
  have H1 := Lib.hid (hashOne b kind)
  have HSZ := Lib.hid (fun d W => digSize d kind none [] hk W)
  obtain ⟨s, hsz⟩ : ∃ s, toySize kind = s := ⟨_, rfl⟩
  rw [hsz] at HSZ HK hT ⊢
  have HSE := Lib.hid hsz
  clear hq hnan hkk hb hr1 hr2 hn1 hn2 hs1 hs2 hk1 hsz
  go_enter Try.func13, Try.ntmps13
  go_wp2_with fail
  have hcp : ((w.alloc (.cells #[.func (Fn.func 24) #[] #[.pointer (some ⟨b, 0, none⟩)]] 44)).alloc (.cells #[] 5)).cell? ⟨w.heap.size, 0, none⟩ = some (.func (Fn.func 24) #[] #[.pointer (some ⟨b, 0, none⟩)]) := by simp
  have hb0 : Below w.heap.size w ((w.alloc (.cells #[.func (Fn.func 24) #[] #[.pointer (some ⟨b, 0, none⟩)]] 44)).alloc (.cells #[] 5)) := below_two (below_alloc _ _) (below_alloc _ _)
  have hsz0 : w.heap.size + 1 < ((w.alloc (.cells #[.func (Fn.func 24) #[] #[.pointer (some ⟨b, 0, none⟩)]] 44)).alloc (.cells #[] 5)).heap.size := by simp
  generalize World.alloc (World.alloc w _) _ = w0 at *
  obtain ⟨p, hp⟩ : ∃ p, w.heap.size = p := ⟨_, rfl⟩
  rw [hp] at hcp hb0 hsz0 ⊢
  refine (H1.out w0 (keep_of_below (by rw [hp]; exact hb0) _ _ HB.out)).mono ?_
  rintro e w1 ⟨d, rfl, hD, hd, hbb⟩
  have HP := Lib.hid hp
  have HD := Lib.hid hD
  have HBB : Hid (Below p w w1) := Lib.hid (hb0.trans (hbb.mono (by omega)))
  have HCP := Lib.hid (keep_of_below hbb _ _ hcp)
  have HZ : Hid (p + 1 < w1.heap.size) := Lib.hid (Nat.lt_of_lt_of_le hsz0 hbb.size)
  have hms := m_size d
  clear hb0 hsz0 hcp hD hd hbb hp
  go_wp2_with fail
  refine (HSZ.out d w1 HD.out).mono ?_
  rintro e w1' ⟨rfl, rfl⟩
  go_wp2_with fail
  refine (HC.out w1).mono ?_
  rintro e w1' ⟨rfl, rfl⟩
  have k64 : k ≤ 4294967296 := by omega
  go_wp2_with fail
  clear hT hCI hms
  go_loopw [12, 13, 30] (fun a o i wr => ∃ j : Nat, j ≤ k ∧ i = .int .i64 j ∧ ∃ A12 n12 c12 A13 L c13, a = .slice A12 n12 c12 ∧ o = .slice A13 L c13 ∧ Hid (wr.cell? ⟨p, 0, none⟩ = some (.func (Fn.func 24) #[] #[.pointer (some ⟨b, 0, none⟩)]) ∧ Own wr (p + 1) 1 A13 L c13 (vs (phOut kind key seed j)) ∧ Hi (p + 1) A13 ∧ Lo A13 wr ∧ Rd wr A12 (vs (phA kind key seed j)) ∧ (phA kind key seed j).length = n12 ∧ (phOut kind key seed j).length = L ∧ Below p w wr ∧ p + 1 < wr.heap.size)) (fun _ _ i _ => k - (intOf i).toNat)
  case atStart =>
    refine ⟨0, Nat.zero_le _, rfl, A2, n2, c2, some ⟨p + 1, 0, none⟩, 0, 0, rfl, rfl, Lib.hid ⟨HCP.out, ?_, ?_, ?_, ?_, ?_, ?_, HBB.out, HZ.out⟩⟩
    · exact Own.empty _ _ _ _
    · exact .inr ⟨p + 1, rfl, Nat.le_refl _⟩
    · intro a ha; simp at ha; subst ha; exact HZ.out
    · exact HR2.out.keep (by rw [HP.out]; exact HBB.out)
    · exact HN2.out
    · rfl
  case round =>
    obtain ⟨j, hj, rfl, A12, n12, c12, A13, L, c13, rfl, rfl, HJ⟩ := hrel
    by_cases hlt : j < k
    · have hbw := fun (W : World) (hw : Below p w W) => keep_of_below (w := w) (by rw [HP.out]; exact hw) _ _ HB.out
      have hrd := fun (W : World) (hw : Below p w W) => And.intro (HR1.out.keep (w' := W) (by rw [HP.out]; exact hw)) (HR2.out.keep (w' := W) (by rw [HP.out]; exact hw))
      have HBW := Lib.hid hbw
      have HRD := Lib.hid hrd
      have n12s : n12 ≤ 50000 := by
        have h6 := HJ.out.2.2.2.2.2.1
        rcases j with _ | j
        · rw [← h6, phA, HN2.out]; exact HS.out.2
        · rw [← h6, phA_length]; have := toySize_le kind; omega
      have C1 := Lib.hid (hmacOf p b kind hk A1 A12 n1 c1 n12 c12 key (phA kind key seed j) HN1.out HJ.out.2.2.2.2.2.1 (by have := HS.out; omega) (by omega) wr HJ.out.1 (HBW.out _ HJ.out.2.2.2.2.2.2.2.1) (HRD.out _ HJ.out.2.2.2.2.2.2.2.1).1 HJ.out.2.2.2.2.1)
      have jw := w64_inc hlt k64
      clear hbw hrd n12s
      rw [HSE.out] at C1
      go_wp2_with fail
      refine C1.out.mono ?_
      rintro e w2 ⟨A12', c12', rfl, hO, hbl⟩
      have HO := Lib.hid hO
      have HBL := Lib.hid hbl
      have hB2 := Lib.hid (HJ.out.2.2.2.2.2.2.2.1.trans (hbl.mono (by have := HJ.out.2.2.2.2.2.2.2.2; omega)))
      clear hO hbl C1
      go_wp2_with (at_builtin; refine Held.on ?_)
      refine held_append3 rfl (.tmp 45) (.tmp 46) 33 33 rfl 0 5 _ 1 1 Try.underlying33 (.inl Try.underlying33) t_u8info rfl (by omega) (xs := vs (toyHmac kind key (phA kind key seed j))) (ys := vs seed) rfl rfl (HO.out.lower (Nat.zero_le _)) ⟨by rw [vs_length, HN2.out]; omega, vs_one _, .inl ⟨A2, c2, rfl, (HRD.out _ hB2.out).2⟩⟩ (by have := HS.out; have := toySize_le kind; have := HSE.out; omega) (by have := HS.out; have := toySize_le kind; have := HSE.out; simp only [maxLen]; omega) (Nat.zero_le _) ?_
      intro A3 c3 w3 hO3 hg3 hor3
      have hs4 := toySize_le kind
      rw [HSE.out] at hs4
      obtain ⟨xa, xo, hxa⟩ := Rd.addr HO.out.rd (by intro e; have := toyHmac_length kind key (phA kind key seed j); rw [e, HSE.out] at this; simp at this; omega)
      have hxg : wr.heap.size ≤ xa := by
        obtain ⟨_, _, _, h0 | ⟨b', o', hA, h4, _⟩⟩ := HO.out
        · have := HO.out.2.1; omega
        · rw [hxa] at hA; injection hA with hA; injection hA with hA; omega
      have T3 : Tch [xa] w2 w3 := (Tch.grown hg3).more (by rw [hxa]; simp)
      have hpz := HJ.out.2.2.2.2.2.2.2.2
      have hw2z := HBL.out.size
      have hB3 : Below p w w3 := by
        exact hB2.out.trans ⟨T3.os, T3.tape, T3.output, T3.size, fun k hk => T3.block k (by omega) (by simp; omega)⟩
      have cp3 := T3.cell (keep_of_below HBL.out _ _ HJ.out.1) (by simp; omega)
      have hr12 : Rd w3 A12' (vs (toyHmac kind key (phA kind key seed j))) := by
        rcases hor3 with ⟨rfl, _⟩ | ⟨_, hb⟩
        · have h9 := hO3.rd.take (vs (toyHmac kind key (phA kind key seed j))).length
          rwa [List.take_left'] at h9
          rfl
        · exact (HO.out.keep hb).rd
      have hO13 : Own w3 (p + 1) 1 A13 L c13 (vs (phOut kind key seed j)) := (HJ.out.2.1.keep HBL.out).tch T3 (by
        rcases HJ.out.2.2.1 with h9 | ⟨a, h9, _⟩
        · exact .inl h9
        · refine .inr ⟨a, h9, ?_⟩
          have := HJ.out.2.2.2.1 a (by rw [h9]; rfl)
          simp; omega)
      have hz3 : p + 1 < w3.heap.size := by have := T3.size; omega
      have C2 := Lib.hid (hmacOf p b kind hk A1 A3 n1 c1 (s + n2) c3 key (toyHmac kind key (phA kind key seed j) ++ seed) HN1.out (by rw [List.length_append, toyHmac_length, HSE.out, HN2.out]) (by have := HS.out; omega) (by have := HS.out; omega) w3 cp3 (HBW.out _ hB3) (HRD.out _ hB3).1 (by rw [vs_append]; exact hO3.rd))
      rw [HSE.out] at C2
      have HB3 := Lib.hid hB3
      have HCP3 := Lib.hid cp3
      have HR12 := Lib.hid hr12
      have HO13 := Lib.hid hO13
      have HZ3 := Lib.hid hz3
      have HX := Lib.hid (And.intro hxa hxg)
      have HW3 := Lib.hid (Nat.le_trans hw2z T3.size)
      clear hO3 hg3 hor3 hs4 hxa hxg T3 hpz hw2z hB3 cp3 hr12 hO13 hz3
      go_wp2_with fail
      refine C2.out.mono ?_
      rintro e w4 ⟨A4, c4, rfl, hO4, hb4⟩
      have HO4 := Lib.hid hO4
      have HB4 := Lib.hid hb4
      clear hO4 hb4 C2
      go_wp2_with (at_builtin; refine Held.on ?_)
      have hLs : L ≤ 64000 := by
        have h6 := HJ.out.2.2.2.2.2.2.1
        rw [phOut_length, HSE.out] at h6
        have h7 : j * s ≤ 2000 * 32 := Nat.mul_le_mul (by omega) (by have := toySize_le kind; have := HSE.out; omega)
        omega
      refine held_append3 rfl (.tmp 54) (.tmp 55) 33 33 rfl (p + 1) 5 _ 1 1 Try.underlying33 (.inl Try.underlying33) t_u8info rfl (by omega) (xs := vs (phOut kind key seed j)) (ys := vs (toyHmac kind key (toyHmac kind key (phA kind key seed j) ++ seed))) rfl rfl (HO13.out.keep HB4.out) ⟨by rw [vs_length, toyHmac_length, HSE.out]; omega, vs_one _, .inl ⟨A4, c4, rfl, HO4.out.rd⟩⟩ (by have := toySize_le kind; have := HSE.out; omega) (by have := toySize_le kind; have := HSE.out; simp only [maxLen]; omega) (by have := HZ3.out; have := HB4.out.size; omega) ?_
      intro A5 c5 w5 hO5 hg5 hor5
      have HO5 := Lib.hid hO5
      have HT5 := Lib.hid (Tch.grown hg5)
      have HOR := Lib.hid hor5
      clear hO5 hg5 hor5 hLs
      go_wp2_with fail
      go_roundw
      case rel =>
        obtain ⟨j1, j2, j3, j4, j5, j6, j7, j8, j9⟩ := HJ.out
        obtain ⟨hxa, hxg⟩ := HX.out
        have hs4 := toySize_le kind
        rw [HSE.out] at hs4
        have hrows : ∀ k ∈ (A13.map (·.block)).toList, p + 1 ≤ k ∧ k < wr.heap.size := fun k hk => ⟨j3.inn k hk, by
          rcases j3 with h9 | ⟨a, h9, _⟩
          · rw [h9] at hk; simp at hk
          · have := j4 a (by rw [h9]; rfl)
            rw [h9] at hk; simp at hk; omega⟩
        have z4 := HB4.out.size
        have z3 := HZ3.out
        have zw := HW3.out
        refine ⟨j + 1, hlt, by first | (rw [jw]; go_num) | go_num, A12', s, c12', A5, L + s, c5, rfl, rfl, Lib.hid ⟨?_, ?_, ?_, ?_, ?_, ?_, ?_, ?_, ?_⟩⟩
        · exact HT5.out.cell (keep_of_below HB4.out _ _ HCP3.out) (fun hm => by have := (hrows _ hm).1; simp at this; omega)
        · rw [phOut, vs_append]; exact HO5.out
        · rcases HOR.out with ⟨h9, _⟩ | ⟨h9, _⟩
          · rw [h9]; exact j3
          · exact .inr ⟨_, h9, by omega⟩
        · exact HO5.out.lo (by omega)
        · have h9 := (HR12.out.keep HB4.out)
          rw [hxa] at h9 ⊢
          exact h9.tch HT5.out (fun hm => by have := (hrows _ hm).2; omega)
        · rw [phA_length, HSE.out]
        · rw [phOut_length, HSE.out, Nat.succ_mul]
          rw [phOut_length, HSE.out] at j7
          omega
        · have h9 : Below p w w4 := HB3.out.trans (HB4.out.mono (by omega))
          exact h9.trans ⟨HT5.out.os, HT5.out.tape, HT5.out.output, HT5.out.size, fun k hk => HT5.out.block k (by omega) (fun hm => by have := (hrows _ hm).1; omega)⟩
        · have := HT5.out.size; omega
      case measure => first | exact t_meas hlt | (rw [jw]; exact t_meas hlt)
    · obtain rfl : k = j := by omega
      obtain ⟨j1, j2, j3, j4, j5, j6, j7, j8, j9⟩ := HJ.out
      have hL : n ≤ L := by have h6 := HK.out; rw [phOut_length, HSE.out] at j7; omega
      have hLc := j2.2.1
      have i1 : (n : Int) ≤ c13 := by omega
      have HF : Hid (Rd wr A13 (vs ((phOut kind key seed k).take n)) ∧ Below p w wr) := Lib.hid ⟨by rw [vs_take]; exact j2.rd.take n, j8⟩
      have i2 : ¬ (c13 : Int) < n := by omega
      clear j1 j2 j3 j4 j5 j6 j7 j8 j9 HJ hlt hj hL
      go_wp2_with fail
      go_ret2
      have h9 := HF.out
      have h10 : Below w.heap.size w wr := by rw [HP.out]; exact h9.2
      first | exact ⟨_, _, k, rfl, HK.out, h9.1, h10⟩ | exact ⟨k, HK.out, h9.1, h10⟩ | exact ⟨_, k, rfl, HK.out, h9.1, h10⟩ | exact ⟨⟨_, rfl⟩, k, HK.out, h9.1, h10⟩ | exact ⟨_, k, HK.out, h9.1, h10⟩ | exact ⟨A13, ⟨c13, rfl⟩, k, HK.out, h9.1, h10⟩
end Go.Proofs.Ytohankdfnjogfaa
