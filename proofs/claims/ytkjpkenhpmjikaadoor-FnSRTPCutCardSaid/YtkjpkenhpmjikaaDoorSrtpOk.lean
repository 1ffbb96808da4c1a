/- Walks: SRTP profiles, read to their end. -/
import Derived.Test.YtkjpkenhpmjikaaDoorSrtpB
import Derived.IntWalk
namespace Go.Proofs.YtkjpkenhpmjikaaDoor
open Go.RowKit Go.Cv Go.Maps
set_option maxRecDepth 100000
set_option linter.unusedVariables false
set_option maxHeartbeats 4000000 in
theorem srtp_ok (g b c : Nat) (l : List UInt8) (p q u v y : UInt8) (zs : List Nat) (mki : List UInt8) (hl : l = 0 :: 14 :: p :: q :: u :: v :: (flat 2 zs ++ y :: mki)) (k m N : Nat) (hkk : zs.length = k) (hmm : mki.length = m) (huv : u.toNat * 256 + v.toNat = k * 2) (hpq : p.toNat * 256 + q.toNat = N) (hNm : N = k * 2 + 3 + m) (hY : y.toNat = m) (hz : ∀ z ∈ zs, isProfile z) (hk1 : k ≤ 1000) (w : World) (hk : Blk w g 79 #[.slice none 0 0, .slice none 0 0]) (hr : Rd w (some ⟨b, 0, none⟩) (vs l)) (hlc : l.length ≤ c) (hbs : b < w.heap.size) (hgb : g ≠ b) :
    Calls Tryd.prog 43 #[.pointer (some ⟨g, 0, none⟩), .slice (some ⟨b, 0, none⟩) l.length c] w fun e w' =>
      e = .returned .nilIface ∧ ∃ A' c' A2 c2, Blk w' g 79 #[.slice A' k c', .slice A2 m c2] ∧ Rd w' A' (zv zs) ∧ Rd w' A2 (vs mki) ∧ w.grownBy w' (some g) := by
  have hgs := hk.lt
  have hy8 := y.toNat_lt
  rw [hY] at hy8
  have hll : l.length = k * 2 + 7 + m := by rw [hl]; simp [flat_length, hkk, hmm]; omega
  obtain ⟨n, hn⟩ : ∃ n, l.length = n := ⟨_, rfl⟩
  have hs7 : 2 * k + 7 ≤ n := by omega
  have hn7 : 7 ≤ n := by omega
  have hn9 : n ≤ 3000 := by omega
  have hfl : (flat 2 zs).length = 2 * k := by rw [flat_length, hkk]; omega
  have hd : l.drop (6 + 2 * k) = y :: mki := by
    rw [hl, ← List.drop_drop]
    show (flat 2 zs ++ y :: mki).drop (2 * k) = _
    rw [← hfl, List.drop_left]
  have hd1 : l.drop (6 + 2 * k + 1) = mki := by
    rw [← List.drop_drop, hd]; rfl
  have HK0 : Hid (∀ w', Below w.heap.size w w' → w'.cell? ⟨g, 0, none⟩ = some (.slice none 0 0) ∧ w'.cell? ⟨g, 1, none⟩ = some (.slice none 0 0)) := fun w' h => ⟨by simpa using (hk.keep h).cell 0, by simpa using (hk.keep h).cell 1⟩
  have HB : Hid (∀ i, i < n → ∀ w', Below w.heap.size w w' → w'.cell? ⟨b, i, none⟩ = some (.int .u8 (l.getD i 0).toNat)) := fun i hi w' h => by
    have := (hr.keep h).byte i (by omega)
    simpa using this
  have hp8 := p.toNat_lt
  have hq8 := q.toNat_lt
  have hu8 := u.toNat_lt
  have hv8 := v.toNat_lt
  have hC4 : Hid (∀ w', Below w.heap.size w w' → Calls Tryd.prog 82 #[.agg #[], .slice (some ⟨b, 4, none⟩) (n - 4) (c - 4)] w' fun e w'' => e = .returned (.int .u16 ((k : Int) * 2)) ∧ Below w'.heap.size w' w'') := fun w' h => by
    have := u16_any b 4 (n - 4) (c - 4) u.toNat v.toNat (by omega) (by omega) (by omega) w' (by have := HB.out 4 (by omega) w' h; rw [hl] at this; exact this) (by have := HB.out 5 (by omega) w' h; rw [hl] at this; exact this)
    rw [huv] at this
    simpa using this
  have hC0 : Hid (∀ w', Below w.heap.size w w' → Calls Tryd.prog 82 #[.agg #[], .slice (some ⟨b, 0, none⟩) n c] w' fun e w'' => e = .returned (.int .u16 14) ∧ Below w'.heap.size w' w'') := fun w' h =>
    u16_any b 0 n c 0 14 (by omega) (by omega) (by omega) w' (by have := HB.out 0 (by omega) w' h; rw [hl] at this; exact this) (by have := HB.out 1 (by omega) w' h; rw [hl] at this; exact this)
  have hC2 : Hid (∀ w', Below w.heap.size w w' → Calls Tryd.prog 82 #[.agg #[], .slice (some ⟨b, 2, none⟩) 2 (c - 2)] w' fun e w'' => e = .returned (.int .u16 (N : Int)) ∧ Below w'.heap.size w' w'') := fun w' h => by
    have := u16_any b 2 2 (c - 2) p.toNat q.toNat (by omega) (by omega) (by omega) w' (by have := HB.out 2 (by omega) w' h; rw [hl] at this; exact this) (by have := HB.out 3 (by omega) w' h; rw [hl] at this; exact this)
    rw [hpq] at this
    exact this
  obtain ⟨s, hs⟩ : ∃ s : Nat, 6 + 2 * k = s := ⟨_, rfl⟩
  have i1 : decide ((n : Int) ≤ 6) = false := by simp; omega
  have i2 : (7 : Int) ≤ n := by omega
  have i3 : (7 : Int) ≤ c := by omega
  have i4 : (n : Int) ≤ c := by omega
  have k0 : (0 : Int) ≤ k := by omega
  have k5 : (k : Int) ≤ 1000 := by omega
  have k6 : (n : Int) ≤ 3000 := by omega
  have k1 : (4 : Int) ≤ c := by omega
  have k4 : (4 : Int) ≤ n := by omega
  have k2 : ¬ c = 2 := by omega
  have k3 : ¬ c = 4 := by omega
  have t4 : (k : Int) * 2 / 2 = k := by omega
  have s3 : (6 + (k : Int) * 2) = (s : Int) := by omega
  have s9 : (s : Int) ≤ 3000 := by omega
  have HS : Hid (∀ w', Below w.heap.size w w' → w'.cell? ⟨b, s, none⟩ = some (.int .u8 (m : Int))) := fun w' h => by
    have h2 := (hr.keep h).drop s
    rw [← vs_drop, ← hs, hd] at h2
    have h3 : Rd w' (some ⟨b, s, none⟩) (vs (y :: mki)) := by simpa [add_lit, hs] using h2
    have h4 := h3.byte 0 (by simp)
    simpa [hY] using h4
  have n0 : (0 : Int) ≤ N := by omega
  have n1 : (N : Int) ≤ 100000 := by omega
  have n2 : (m : Int) < 256 := by omega
  have s4 : (s : Int) < n := by omega
  have t1 : decide ((n : Int) < (s : Int) + 1) = false := by simp; omega
  have t5 : decide ((n : Int) ≤ (s : Int) + m) = false := by simp; omega
  have t6 : (s : Int) + m - 4 = (N : Int) - 1 := by omega
  have t7 : (s : Int) + m - 4 = (((s + m - 4 : Nat)) : Int) := by omega
  have t8 : (N : Int) - 1 = (((s + m - 4 : Nat)) : Int) := by omega
  have HNN : Hid (n = k * 2 + 7 + m) := Lib.hid (by omega)
  have HSS := Lib.hid hs
  have HKK := Lib.hid hkk
  have HMM := Lib.hid hmm
  have HZ := Lib.hid hz
  have HL := Lib.hid hl
  have HR := Lib.hid hr
  have HKW := Lib.hid hk
  have HD1 := Lib.hid hd1
  have HFL := Lib.hid hfl
  rw [hn]
  clear hl huv hk hr hlc hp8 hq8 hu8 hv8 HB hn hs hs7 hk1 hn7 hn9 hpq hY hy8 hll hNm hkk hmm hd hd1 hz hfl t6
  go_enter Tryd.func43, Tryd.ntmps43
  go_wp2_with fail
  go_region_held3 (fun w' => w'.cell? ⟨g, 0, none⟩ = some (.slice none 0 0) ∧ w'.cell? ⟨g, 1, none⟩ = some (.slice none 0 0)) (exact HK0.out _ (by first | exact below_drew w | exact (below_drew w).trans (by assumption) | exact below_two ((below_drew w).trans (by assumption)) (by assumption))) (first
    | (go_at_call 82; refine (hC0.out _ (by first | exact below_drew w | exact (below_drew w).trans (by assumption))).mono ?_; rintro e w6 ⟨rfl, hb6⟩)
    | (go_at_call 85; refine (srtpType _ _ _).mono ?_; rintro e w7 ⟨rfl, hb7⟩))
  all_goals
    first | (have hb2 := below_two ((below_drew w).trans hb6) hb7) | (have hb2 := below_two ((below_drew w).trans hb7) hb6)
    clear hb6 hb7 hC0
    rename World => wS
    go_wp2_with fail
    have hb3 : Below w.heap.size w (World.drew wS) := hb2.drew
    clear hb2
    refine wp_region_still_tail 3 (by kernel_rfl) (by kernel_rfl) ?_
    simp only [List.take_succ_cons, List.take_zero, List.drop_succ_cons, List.drop_zero]
    change wpStill _ _ (World.drew wS) (fun a => wpList _ _ _ _ a (World.drew wS)) _ _
    generalize World.drew wS = w3 at *
    repeat still_step
    refine wpStill_nil ?_
    go_wp2_with fail
    refine (hC4.out w3 hb3).mono ?_
    rintro e w4 ⟨rfl, hb4⟩
    have hb5 := below_two hb3 hb4
    clear hb3 hb4 hC4
    go_wp2_with fail
    have hb6 : Below w.heap.size w w4.drew := hb5.drew
    clear hb5
    refine wp_region_still_tail 3 (by kernel_rfl) (by kernel_rfl) ?_
    simp only [List.take_succ_cons, List.take_zero, List.drop_succ_cons, List.drop_zero]
    change wpStill _ _ (World.drew w4) (fun a => wpList _ _ _ _ a (World.drew w4)) _ _
    generalize World.drew w4 = w6 at *
    repeat still_step
    refine wpStill_nil ?_
    go_wp2_with fail
    refine (hC2.out w6 hb6).mono ?_
    rintro e w8 ⟨rfl, hb8⟩
    have hb9 := below_two hb6 hb8
    have hS := HS.out _ hb9
    clear hb6 hb8 hC2
    have P0 := Lib.hid (HKW.out.keep hb9)
    have P3 := Lib.hid (HR.out.keep hb9)
    have LF := hb9.size
    have P2 := Lib.hid (Tch.below hb9 [g])
    clear hb9 HKW HR
    go_wp2_with fail
    go_loopw [68] (fun i wr => ∃ j : Nat, j ≤ k ∧ i = .int .i64 j ∧ ∃ A c', Hi w.heap.size A ∧ Blk wr g 79 #[.slice A j c', .slice none 0 0] ∧ Own wr w.heap.size 1 A j c' (zv (zs.take j)) ∧ Tch [g] w wr ∧ Rd wr (some ⟨b, 0, none⟩) (vs l)) (fun i _ => k - (intOf i).toNat)
    case atStart => exact ⟨0, Nat.zero_le _, rfl, none, 0, .inl rfl, P0.out, Own.nil _ _ _, P2.out, P3.out⟩
    case round =>
      clear P0 P2 P3
      obtain ⟨j, hj, rfl, A, c', hA, hkr, hor, htr, hrr⟩ := hrel
      have LR := htr.size
      have HKR := Lib.hid hkr
      have HOR := Lib.hid hor
      have HTR := Lib.hid htr
      have HRR := Lib.hid hrr
      clear hkr hor htr hrr
      by_cases hlt : j < k
      · obtain ⟨d, hd⟩ : ∃ d : Nat, 6 + 2 * j = d := ⟨_, rfl⟩
        obtain ⟨z, hzj⟩ : ∃ z, zs.getD j 0 = z := ⟨_, rfl⟩
        have hjz : j < zs.length := by have := HKK.out; omega
        have hzm : isProfile z := by
          rw [← hzj, List.getD_eq_getElem?_getD, List.getElem?_eq_getElem hjz]
          exact HZ.out _ (List.getElem_mem hjz)
        have hz16 : z < 65536 := by rcases hzm with rfl | rfl | rfl | rfl | rfl | rfl | rfl | rfl <;> omega
        obtain ⟨x, y', r, hdx, hxy⟩ := flat_at zs j hjz (by rw [hzj]; exact hz16)
        rw [hzj] at hxy
        have hls : ∃ r', l.drop d = x :: y' :: r' := by
          refine ⟨r ++ y :: mki, ?_⟩
          rw [HL.out, ← hd, ← List.drop_drop]
          show (flat 2 zs ++ y :: mki).drop (2 * j) = _
          rw [List.drop_append_of_le_length (by rw [HFL.out]; omega), hdx]; rfl
        obtain ⟨r', hls⟩ := hls
        have hx8 := x.toNat_lt
        have hy8 := y'.toNat_lt
        have d1 : IntKind.i64.wrap ((j : Int) * 2) = (j : Int) * 2 := (wrap_small _ (by omega) (by omega)).2
        have d2 : IntKind.i64.wrap (6 + (j : Int) * 2) = (d : Int) := by rw [(wrap_small (6 + (j : Int) * 2) (by omega) (by omega)).2]; omega
        have d3 : (6 + (j : Int) * 2) = (d : Int) := by omega
        have d4 : (d : Int) ≤ n := by have := HNN.out; omega
        have d5 : (2 : Int) ≤ ((n - d : Nat) : Int) := by have := HNN.out; omega
        have d6 : ¬ c = d := by have := HNN.out; omega
        have d8 : IntKind.i64.wrap (d : Int) = d := (wrap_small _ (by omega) (by have := HNN.out; omega)).2
        have d7 : ¬ ((d : Int) < 0) := by omega
        have HD := Lib.hid hls
        have hC : Hid (Calls Tryd.prog 82 #[.agg #[], .slice (some ⟨b, d, none⟩) (n - d) (c - d)] wr.drew fun e w'' => e = .returned (.int .u16 (z : Int)) ∧ Below wr.heap.size wr.drew w'') := by
          have hrd : Rd wr.drew (some ⟨b, d, none⟩) (vs (x :: y' :: r')) := by
            have := HRR.out.drop d
            rw [← vs_drop, HD.out] at this
            have h2 : Rd wr (some ⟨b, d, none⟩) (vs (x :: y' :: r')) := by simpa [add_lit] using this
            exact h2
          have h0 := hrd.byte 0 (by simp)
          have h1 := hrd.byte 1 (by simp)
          have := u16_any b d (n - d) (c - d) x.toNat y'.toNat (by omega) (by omega) d5 wr.drew (by simpa using h0) (by simpa using h1)
          rw [hxy] at this
          exact this
        have HZM := Lib.hid hzm
        have HZJ := Lib.hid hzj
        have HJZ := Lib.hid hjz
        clear hd hls hdx hxy hzm hz16 hzj hx8 hy8 hjz
        have hbd : Below wr.heap.size wr wr.drew := below_drew wr
        go_wp2_with fail
        refine wp_region_still_tail 6 (by kernel_rfl) (by kernel_rfl) ?_
        simp only [List.take_succ_cons, List.take_zero, List.drop_succ_cons, List.drop_zero]
        change wpStill _ _ (World.drew wr) (fun a => wpList _ _ _ _ a (World.drew wr)) _ _
        generalize World.drew wr = wd at *
        repeat still_step
        refine wpStill_nil ?_
        go_wp2_with fail
        refine hC.out.mono ?_
        rintro e w9 ⟨rfl, hb9⟩
        have hb10 : Below wr.heap.size wr w9 := hbd.trans hb9
        clear hbd hb9 hC d1 d2 d3 d8
        go_wp2_with fail
        refine (profiles_any w9).mono ?_
        rintro e wA ⟨mb, rfl, hmap, hbA⟩
        have hb11 := below_two hb10 hbA
        have hkA := HKR.out.keep hb11
        have HMAP := Lib.hid hmap
        have HBA := Lib.hid hb11
        have HKA := Lib.hid hkA
        clear hmap hbA hb10
        go_wp2_with (with_reducible refine Held.lookup ?_)
        refine held_lookup_ok rfl (.tmp 79) (.tmp 80) 166 rfl 165 4 profileKeyed Tryd.underlying166 Tryd.underlying4 (boolZero _) mb 8 profilesD rfl HMAP.out _ _ rfl (keyOf_int_mk Tryd.underlying165 (by rcases HZM.out with h | h | h | h | h | h | h | h <;> subst h <;> decide)) true true (profiles_at z HZM.out).1 (profiles_at z HZM.out).2 ?_
        have kA := hkA.cell 0
        simp at kA
        have LA := hb11.size
        have LB : w.heap.size ≤ wA.heap.size := by omega
        clear hkA hb11
        go_wp2_with (at_builtin; refine Held.on ?_)
        refine held_append rfl (.tmp 89) (.tmp 91) 77 77 rfl w.heap.size 165 _ 1 2 Tryd.underlying77 (.inl Tryd.underlying77) profileInfo rfl (by omega) (xs := zv (zs.take j)) (ys := zv [z]) rfl rfl ((HOR.out.keep HBA.out).keep (below_alloc _ _)) ⟨rfl, by intro v h; simp [zv] at h; subst h; rfl, .inl ⟨_, _, rfl, rd_single _ _ _⟩⟩ (by omega) (by simp only [maxLen]; omega) (by simp; omega) ?_
        intro A2 c2 wB hOB hgB horB
        have tB : Tch (A.map (·.block)).toList wr wB := (((Tch.below HBA.out []).trans (Tch.alloc _ _)).more (by simp)).trans (Tch.grown hgB)
        have hA2 : Hi w.heap.size A2 := hA.new horB (by simp; omega)
        have hkB := HKR.out.tch tB (hA.notin (by omega))
        have kB := hkB.cell 0
        have fB := hkB.frozen 0
        simp at kB
        have TS := Tch.set wB g 0 (.slice A2 (j + 1) c2)
        have HKB := Lib.hid hkB
        have HOB := Lib.hid hOB
        have HTB := Lib.hid (HTR.out.then tB (fun k hk => .inr (hA.inn k hk)))
        have HRB := Lib.hid (HRR.out.tch tB (hA.notin (by omega)))
        clear hOB hgB horB tB hkB kA
        go_wp2_with fail
        go_roundw
        case rel =>
          have hO := HOB.out.tch TS (hA2.away (by simp; omega))
          rw [← HZJ.out, zv_snoc zs j HJZ.out] at hO
          exact ⟨j + 1, by omega, by go_num, A2, c2, hA2, by simpa using HKB.out.set_ 0 (.slice A2 (j + 1) c2), hO, HTB.out.trans TS, HRB.out.tch TS (by simp; omega)⟩
        case measure => simp [intOf]; omega
      · obtain rfl : j = k := by omega
        have e : zs.take j = zs := List.take_of_length_le (by rw [HKK.out]; exact Nat.le_refl _)
        have HE := Lib.hid e
        clear e
        obtain ⟨d1, hd1⟩ : ∃ d1 : Nat, s + 1 = d1 := ⟨_, rfl⟩
        obtain ⟨d2, hd2⟩ : ∃ d2 : Nat, s + m + 1 = d2 := ⟨_, rfl⟩
        have f1 : (s : Int) + 1 = d1 := by omega
        have f2 : (s : Int) + m + 1 = d2 := by omega
        have f3 : (d1 : Int) ≤ d2 := by omega
        have f4 : (d2 : Int) ≤ c := by have := HNN.out; have := HSS.out; omega
        have f5 : (d2 : Int) ≤ n := by have := HNN.out; have := HSS.out; omega
        have F6 : Hid (d2 - d1 = m) := Lib.hid (by omega)
        have F7 : Hid (c = d1 → m = 0) := Lib.hid (by intro h; have := HNN.out; have := HSS.out; omega)
        have F8 := Lib.hid hd1
        clear hd1 hd2
        have HS1 : Hid (∀ w', Tch [] wr w' → Rd w' (some ⟨b, d1, none⟩) (vs mki)) := fun w' ht => by
          have h2 := (HRR.out.tch ht (by simp)).drop d1
          rw [← vs_drop, ← F8.out, ← HSS.out, HD1.out] at h2
          have h3 : Rd w' (some ⟨b, 6 + 2 * j + 1, none⟩) (vs mki) := by simpa [add_lit] using h2
          rw [HSS.out, F8.out] at h3
          exact h3
        have HS0 : Hid (c = d1 → mki = []) := fun h => List.eq_nil_of_length_eq_zero (by rw [HMM.out]; exact F7.out h)
        have k9 := HKR.out.cell 1
        have LB : w.heap.size ≤ wr.heap.size := by omega
        have LG : g < wr.heap.size := by omega
        simp at k9
        have FM : Hid ((m : Int) < 256) := Lib.hid n2
        clear HD1 s3 t7 t8
        go_wp2_with (at_builtin; refine Held.on ?_)
        all_goals
          refine held_append rfl (.tmp 97) (.tmp 103) 54 54 rfl wr.heap.size 5 _ 1 1 Tryd.underlying54 (.inl Tryd.underlying54) u8info rfl (by omega) (xs := []) (ys := vs mki) (m := d2 - d1) rfl rfl (own_made0 wr 5) ⟨by rw [vs_length, HMM.out, F6.out]; omega, vs_one _, .inl ⟨_, _, rfl, (by first | exact HS1.out _ (Tch.alloc _ _) | exact Rd.of_empty (by rw [HS0.out (by assumption)]; rfl))⟩⟩ (by have := F6.out; have := FM.out; omega) (by have := F6.out; have := FM.out; simp only [maxLen]; omega) (by simp) ?_
          intro A2 c2 wB hOB hgB horB
          have hbB := below_append_new hgB
          have hkB := HKR.out.keep hbB
          have kB := hkB.cell 1
          have fB := hkB.frozen 1
          simp at kB
          rw [F6.out] at hOB ⊢
          have TB := HTR.out.then (Tch.below hbB []) (by simp)
          have hoB := HOR.out.keep hbB
          have HA2 : Hid (Hi wr.heap.size A2) := by
            rcases horB with ⟨h, _⟩ | h
            · exact .inr ⟨_, h, Nat.le_refl _⟩
            · exact .inr ⟨_, h, by simp⟩
          have HKB := Lib.hid hkB
          have HTB := Lib.hid TB
          have HOB := Lib.hid hoB
          have HRB := Lib.hid hOB
          clear hgB horB hbB hkB TB hoB hOB k9
          go_wp2_with fail
          go_ret
          have TS := Tch.set wB g 1 (.slice A2 (0 + m) c2)
          refine ⟨rfl, _, _, _, _, by simpa using HKB.out.set_ 1 (.slice A2 (0 + m) c2), ?_, ?_, (HTB.out.trans (by simpa using TS)).toGrown⟩
          · have h := (HOB.out.tch TS (hA.away (by simp; omega))).rd
            rw [HE.out] at h
            simpa using h
          · have h := (HRB.out.tch TS (HA2.out.away (by simp; omega))).rd
            simpa using h
end Go.Proofs.YtkjpkenhpmjikaaDoor
