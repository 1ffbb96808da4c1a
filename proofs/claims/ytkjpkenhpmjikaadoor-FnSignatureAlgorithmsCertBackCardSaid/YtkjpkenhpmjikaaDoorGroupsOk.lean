/- Walks: a list of groups, read to its end. -/
import Derived.Test.YtkjpkenhpmjikaaDoorGroups
import Derived.IntWalk
namespace Go.Proofs.YtkjpkenhpmjikaaDoor
open Go.RowKit Go.Cv Go.Maps
set_option maxRecDepth 100000
set_option linter.unusedVariables false
theorem groupInfo : (Tryd.prog.info? 161).map (fun i => (i.zero, i.size, i.bytes)) = some (some (.int .u16 0), 1, 2) := by kernel_rfl
theorem flat_drop2 (zs : List Nat) (j : Nat) : (flat 2 zs).drop (2 * j) = flat 2 (zs.drop j) := by
  induction j generalizing zs with
  | zero => simp
  | succ j ih =>
    cases zs with
    | nil => simp [flat]
    | cons z r =>
      have h : flat 2 (z :: r) = be 2 z ++ flat 2 r := rfl
      rw [h, Nat.mul_succ, Nat.add_comm, ← List.drop_drop]
      have h2 : (be 2 z ++ flat 2 r).drop 2 = flat 2 r := by
        have := List.drop_left (l₁ := be 2 z) (l₂ := flat 2 r)
        rwa [be_length] at this
      rw [h2, ih]; rfl
/-- The number at place j. -/
theorem flat_at (zs : List Nat) (j : Nat) (hj : j < zs.length) (hz : zs.getD j 0 < 65536) : ∃ x y r, (flat 2 zs).drop (2 * j) = x :: y :: r ∧ x.toNat * 256 + y.toNat = zs.getD j 0 := by
  rw [flat_drop2, List.drop_eq_getElem_cons hj]
  have e : zs.getD j 0 = zs[j] := by rw [List.getD_eq_getElem?_getD, List.getElem?_eq_getElem hj]; rfl
  rw [e] at hz ⊢
  obtain ⟨x, y, h1, h2⟩ := be2_parts zs[j] hz
  refine ⟨x, y, flat 2 (zs.drop (j + 1)), ?_, h2⟩
  show be 2 zs[j] ++ flat 2 (zs.drop (j + 1)) = _
  rw [h1]; rfl
theorem zv_snoc (zs : List Nat) (j : Nat) (hj : j < zs.length) : zv (zs.take j) ++ zv [zs.getD j 0] = zv (zs.take (j + 1)) := by
  have e : zs.take (j + 1) = zs.take j ++ [zs.getD j 0] := by
    rw [List.take_succ_eq_append_getElem hj, List.getD_eq_getElem?_getD, List.getElem?_eq_getElem hj]; rfl
  rw [e]; simp [zv]
theorem wrap_small (x : Int) (h0 : 0 ≤ x) (h : x ≤ 1000000) : wrap64 x = x ∧ IntKind.i64.wrap x = x := ⟨by unfold wrap64; omega, IntWalk.i64_in _ (by omega)⟩
set_option maxHeartbeats 4000000 in
theorem groups_ok (g b c : Nat) (l : List UInt8) (p q u v : UInt8) (zs : List Nat) (hl : l = 0 :: 10 :: p :: q :: u :: v :: flat 2 zs) (hpq : p.toNat * 256 + q.toNat = zs.length * 2 + 2) (huv : u.toNat * 256 + v.toNat = zs.length * 2)
    (hz : ∀ z ∈ zs, z = 23 ∨ z = 24 ∨ z = 29) (hzl : zs.length ≤ 1000) (w : World)
    (hk : Blk w g 71 #[.slice none 0 0]) (hr : Rd w (some ⟨b, 0, none⟩) (vs l)) (hlc : l.length ≤ c) (hbs : b < w.heap.size) (hgb : g ≠ b) :
    Calls Tryd.prog 41 #[.pointer (some ⟨g, 0, none⟩), .slice (some ⟨b, 0, none⟩) l.length c] w fun e w' =>
      e = .returned .nilIface ∧ ∃ A' c', Blk w' g 71 #[.slice A' zs.length c'] ∧ Rd w' A' (zv zs) ∧ w.grownBy w' (some g) := by
  have hgs := hk.lt
  have hll : l.length = zs.length * 2 + 6 := by rw [hl]; simp [flat_length]
  have HK0 : Hid (∀ w', Below w.heap.size w w' → w'.cell? ⟨g, 0, none⟩ = some (.slice none 0 0)) := fun w' h => by simpa using (hk.keep h).cell 0
  have HB : Hid (∀ i, i < 6 → ∀ w', Below w.heap.size w w' → w'.cell? ⟨b, i, none⟩ = some (.int .u8 (l.getD i 0).toNat)) := fun i hi w' h => by
    have := (hr.keep h).byte i (by omega)
    simpa using this
  have hp8 := p.toNat_lt
  have hq8 := q.toNat_lt
  have hu8 := u.toNat_lt
  have hv8 := v.toNat_lt
  obtain ⟨n, hn⟩ : ∃ n, l.length = n := ⟨_, rfl⟩
  obtain ⟨k, hkk⟩ : ∃ k, zs.length = k := ⟨_, rfl⟩
  rw [hkk] at hpq huv hll hzl
  have hC2 : Hid (∀ w', Below w.heap.size w w' → Calls Tryd.prog 82 #[.agg #[], .slice (some ⟨b, 2, none⟩) 2 (c - 2)] w' fun e w'' => e = .returned (.int .u16 ((k : Int) * 2 + 2)) ∧ Below w'.heap.size w' w'') := fun w' h => by
    have := u16_any b 2 2 (c - 2) p.toNat q.toNat (by omega) (by omega) (by omega) w' (by have := HB.out 2 (by omega) w' h; rw [hl] at this; exact this) (by have := HB.out 3 (by omega) w' h; rw [hl] at this; exact this)
    rw [hpq] at this
    simpa using this
  have hC4 : Hid (∀ w', Below w.heap.size w w' → Calls Tryd.prog 82 #[.agg #[], .slice (some ⟨b, 4, none⟩) (n - 4) (c - 4)] w' fun e w'' => e = .returned (.int .u16 ((k : Int) * 2)) ∧ Below w'.heap.size w' w'') := fun w' h => by
    have := u16_any b 4 (n - 4) (c - 4) u.toNat v.toNat (by omega) (by omega) (by omega) w' (by have := HB.out 4 (by omega) w' h; rw [hl] at this; exact this) (by have := HB.out 5 (by omega) w' h; rw [hl] at this; exact this)
    rw [huv] at this
    simpa using this
  have hC0 : Hid (∀ w', Below w.heap.size w w' → Calls Tryd.prog 82 #[.agg #[], .slice (some ⟨b, 0, none⟩) n c] w' fun e w'' => e = .returned (.int .u16 10) ∧ Below w'.heap.size w' w'') := fun w' h =>
    u16_any b 0 n c 0 10 (by omega) (by omega) (by omega) w' (by have := HB.out 0 (by omega) w' h; rw [hl] at this; exact this) (by have := HB.out 1 (by omega) w' h; rw [hl] at this; exact this)
  have i1 : decide ((n : Int) < 6) = false := by simp; omega
  have i2 : (6 : Int) ≤ n := by omega
  have i3 : (6 : Int) ≤ c := by omega
  have i4 : (n : Int) ≤ c := by omega
  have k0 : (0 : Int) ≤ k := by omega
  have k5 : (k : Int) ≤ 1000 := by omega
  have k6 : (n : Int) ≤ 3000 := by omega
  have k1 : (4 : Int) ≤ c := by omega
  have k4 : (4 : Int) ≤ n := by omega
  have k2 : ¬ c = 2 := by omega
  have k3 : ¬ c = 4 := by omega
  have t1 : decide ((n : Int) - 4 < (k : Int) * 2 + 2) = false := by simp; omega
  have t2 : decide ((n : Int) < 6 + (k : Int) * 2) = false := by simp; omega
  have t3 : ((k : Int) * 2 + 2 != (k : Int) * 2 + 2) = false := by simp
  have t4 : (k : Int) * 2 / 2 = k := by omega
  have HNN : Hid (n = k * 2 + 6) := Lib.hid (by omega)
  have HKK := Lib.hid hkk
  have HZ := Lib.hid hz
  have HL := Lib.hid hl
  have HR := Lib.hid hr
  have HKW := Lib.hid hk
  rw [hn]
  clear hl hpq huv hk hr hlc hll hp8 hq8 hu8 hv8 HB hn hz hkk hzl
  go_enter Tryd.func41, Tryd.ntmps41
  go_wp2_with fail
  have hb0 : Below w.heap.size w w.drew := below_drew w
  refine wp_region_still_tail 3 (by kernel_rfl) (by kernel_rfl) ?_
  simp only [List.take_succ_cons, List.take_zero, List.drop_succ_cons, List.drop_zero]
  change wpStill _ _ (World.drew w) (fun a => wpList _ _ _ _ a (World.drew w)) _ _
  generalize World.drew w = w1 at *
  repeat still_step
  refine wpStill_nil ?_
  go_wp2_with fail
  refine (hC2.out w1 hb0).mono ?_
  rintro e w2 ⟨rfl, hb1⟩
  have hb2 := below_two hb0 hb1
  clear hb0 hb1 hC2
  go_wp2_with fail
  have hb3 : Below w.heap.size w w2.drew := hb2.drew
  clear hb2
  refine wp_region_still_tail 3 (by kernel_rfl) (by kernel_rfl) ?_
  simp only [List.take_succ_cons, List.take_zero, List.drop_succ_cons, List.drop_zero]
  change wpStill _ _ (World.drew w2) (fun a => wpList _ _ _ _ a (World.drew w2)) _ _
  generalize World.drew w2 = w3 at *
  repeat still_step
  refine wpStill_nil ?_
  go_wp2_with fail
  refine (hC4.out w3 hb3).mono ?_
  rintro e w4 ⟨rfl, hb4⟩
  have hb5 := below_two hb3 hb4
  clear hb3 hb4 hC4
  go_wp2_with fail
  go_region_held3 (fun w' => w'.cell? ⟨g, 0, none⟩ = some (.slice none 0 0)) (exact HK0.out _ (by first | exact hb5.drew | exact below_two hb5.drew (by assumption) | exact below_two (below_two hb5.drew (by assumption)) (by assumption))) (first
    | (go_at_call 82; refine (hC0.out _ (by first | exact hb5.drew | exact below_two hb5.drew (by assumption))).mono ?_; rintro e w6 ⟨rfl, hb6⟩)
    | (go_at_call 83; refine (groupsType _ _).mono ?_; rintro e w7 ⟨rfl, hb7⟩))
  all_goals
    first | (have hbF := below_two (below_two hb5.drew hb6) hb7) | (have hbF := below_two (below_two hb5.drew hb7) hb6)
    have P0 := Lib.hid (HKW.out.keep hbF)
    have P3 := Lib.hid (HR.out.keep hbF)
    have LF := hbF.size
    have P2 := Lib.hid (Tch.below hbF [g])
    clear hb5 hb6 hb7 hbF hC0 HKW HR
    go_wp2_with fail
    go_loopw [59] (fun i wr => ∃ j : Nat, j ≤ k ∧ i = .int .i64 j ∧ ∃ A c', Hi w.heap.size A ∧ Blk wr g 71 #[.slice A j c'] ∧ Own wr w.heap.size 1 A j c' (zv (zs.take j)) ∧ Tch [g] w wr ∧ Rd wr (some ⟨b, 0, none⟩) (vs l)) (fun i _ => k - (intOf i).toNat)
    case atStart => exact ⟨0, Nat.zero_le _, rfl, none, 0, .inl rfl, P0.out, Own.nil _ _ _, P2.out, P3.out⟩
    case round =>
      clear P0 P2 P3
      obtain ⟨j, hj, rfl, A, c', hA, hkr, hor, htr, hrr⟩ := hrel
      have LR := htr.size
      have HKR := Lib.hid hkr
      have HOR := Lib.hid hor
      have HTR := Lib.hid htr
      have HRR := Lib.hid hrr
      clear hkr hor htr hrr
      by_cases hlt : j < k
      · obtain ⟨s, hs⟩ : ∃ s : Nat, 6 + 2 * j = s := ⟨_, rfl⟩
        obtain ⟨z, hzj⟩ : ∃ z, zs.getD j 0 = z := ⟨_, rfl⟩
        have hjz : j < zs.length := by have := HKK.out; omega
        have hzm : z = 23 ∨ z = 24 ∨ z = 29 := by
          rw [← hzj, List.getD_eq_getElem?_getD, List.getElem?_eq_getElem hjz]
          exact HZ.out _ (List.getElem_mem hjz)
        have hz16 : z < 65536 := by rcases hzm with rfl | rfl | rfl <;> omega
        obtain ⟨x, y, r, hd, hxy⟩ := flat_at zs j hjz (by rw [hzj]; exact hz16)
        rw [hzj] at hxy
        have hls : l.drop s = x :: y :: r := by
          rw [HL.out, ← hs, ← hd, ← List.drop_drop]; rfl
        have hx8 := x.toNat_lt
        have hy8 := y.toNat_lt
        have s1 : IntKind.i64.wrap ((j : Int) * 2) = (j : Int) * 2 := (wrap_small _ (by omega) (by omega)).2
        have s2 : IntKind.i64.wrap (6 + (j : Int) * 2) = (s : Int) := by rw [(wrap_small (6 + (j : Int) * 2) (by omega) (by omega)).2]; omega
        have s3 : (6 + (j : Int) * 2) = (s : Int) := by omega
        have s4 : (s : Int) ≤ n := by have := HNN.out; omega
        have s5 : (2 : Int) ≤ ((n - s : Nat) : Int) := by have := HNN.out; omega
        have s6 : ¬ c = s := by have := HNN.out; omega
        have s8 : IntKind.i64.wrap (s : Int) = s := (wrap_small _ (by omega) (by have := HNN.out; omega)).2
        have s7 : ¬ ((s : Int) < 0) := by omega
        have HD := Lib.hid hls
        have hC : Hid (Calls Tryd.prog 82 #[.agg #[], .slice (some ⟨b, s, none⟩) (n - s) (c - s)] wr.drew fun e w'' => e = .returned (.int .u16 (z : Int)) ∧ Below wr.heap.size wr.drew w'') := by
          have hrd : Rd wr.drew (some ⟨b, s, none⟩) (vs (x :: y :: r)) := by
            have := HRR.out.drop s
            rw [← vs_drop, HD.out] at this
            have h2 : Rd wr (some ⟨b, s, none⟩) (vs (x :: y :: r)) := by simpa [add_lit] using this
            exact h2
          have h0 := hrd.byte 0 (by simp)
          have h1 := hrd.byte 1 (by simp)
          have := u16_any b s (n - s) (c - s) x.toNat y.toNat (by omega) (by omega) s5 wr.drew (by simpa using h0) (by simpa using h1)
          rw [hxy] at this
          exact this
        have HZM := Lib.hid hzm
        have HZJ := Lib.hid hzj
        have HJZ := Lib.hid hjz
        clear hs hls hd hxy hzm hz16 hzj hx8 hy8 hjz
        have hbd : Below wr.heap.size wr wr.drew := below_drew wr
        go_wp2_with fail
        refine wp_region_still_tail 6 (by kernel_rfl) (by kernel_rfl) ?_
        simp only [List.take_succ_cons, List.take_zero, List.drop_succ_cons, List.drop_zero]
        change wpStill _ _ (World.drew wr) (fun a => wpList _ _ _ _ a (World.drew wr)) _ _
        generalize World.drew wr = wd at *
        repeat still_step
        refine wpStill_nil ?_
        go_wp2_with fail
        refine hC.out.mono ?_
        rintro e w9 ⟨rfl, hb9⟩
        have hb10 : Below wr.heap.size wr w9 := hbd.trans hb9
        clear hbd hb9 hC s1 s2 s3 s8
        go_wp2_with fail
        refine (curves_any w9).mono ?_
        rintro e wA ⟨mb, rfl, hmap, hbA⟩
        have hb11 := below_two hb10 hbA
        have hkA := HKR.out.keep hb11
        have HMAP := Lib.hid hmap
        have HBA := Lib.hid hb11
        have HKA := Lib.hid hkA
        clear hmap hbA hb10
        go_wp2_with (with_reducible refine Held.lookup ?_)
        refine held_lookup_ok rfl (.tmp 70) (.tmp 71) 163 rfl 161 4 curveKeyed Tryd.underlying163 Tryd.underlying4 (boolZero _) mb 3 curvesD rfl HMAP.out _ _ rfl (keyOf_int_mk Tryd.underlying161 (by rcases HZM.out with h | h | h <;> subst h <;> decide)) true true (curves_at z HZM.out).1 (curves_at z HZM.out).2 ?_
        have kA := hkA.cell 0
        simp at kA
        have LA := hb11.size
        have LB : w.heap.size ≤ wA.heap.size := by omega
        clear hkA hb11
        go_wp2_with (at_builtin; refine Held.on ?_)
        refine held_append rfl (.tmp 80) (.tmp 82) 69 69 rfl w.heap.size 161 _ 1 2 Tryd.underlying69 (.inl Tryd.underlying69) groupInfo rfl (by omega) (xs := zv (zs.take j)) (ys := zv [z]) rfl rfl ((HOR.out.keep HBA.out).keep (below_alloc _ _)) ⟨rfl, by intro v h; simp [zv] at h; subst h; rfl, .inl ⟨_, _, rfl, rd_single _ _ _⟩⟩ (by omega) (by simp only [maxLen]; omega) (by simp; omega) ?_
        intro A2 c2 wB hOB hgB horB
        have tB : Tch (A.map (·.block)).toList wr wB := (((Tch.below HBA.out []).trans (Tch.alloc _ _)).more (by simp)).trans (Tch.grown hgB)
        have hA2 : Hi w.heap.size A2 := hA.new horB (by simp; omega)
        have hkB := HKR.out.tch tB (hA.notin (by omega))
        have kB := hkB.cell 0
        have fB := hkB.frozen 0
        simp at kB
        have TS := Tch.set wB g 0 (.slice A2 (j + 1) c2)
        have HKB := Lib.hid hkB
        have HOB := Lib.hid hOB
        have HTB := Lib.hid (HTR.out.then tB (fun k hk => .inr (hA.inn k hk)))
        have HRB := Lib.hid (HRR.out.tch tB (hA.notin (by omega)))
        clear hOB hgB horB tB hkB kA
        go_wp2_with fail
        go_roundw
        case rel =>
          have hO := HOB.out.tch TS (hA2.away (by simp; omega))
          rw [← HZJ.out, zv_snoc zs j HJZ.out] at hO
          exact ⟨j + 1, by omega, by go_num, A2, c2, hA2, by simpa using HKB.out.set_ 0 (.slice A2 (j + 1) c2), hO, HTB.out.trans TS, HRB.out.tch TS (by simp; omega)⟩
        case measure => simp [intOf]; omega
      · obtain rfl : j = k := by omega
        have e : zs.take j = zs := List.take_of_length_le (by rw [HKK.out]; exact Nat.le_refl _)
        have HE := Lib.hid e
        clear e
        go_wp2_with fail
        go_ret
        have h := HOR.out
        rw [HE.out] at h
        rw [HKK.out]
        exact ⟨rfl, _, _, HKR.out, h.rd, HTR.out.toGrown⟩
end Go.Proofs.YtkjpkenhpmjikaaDoor
