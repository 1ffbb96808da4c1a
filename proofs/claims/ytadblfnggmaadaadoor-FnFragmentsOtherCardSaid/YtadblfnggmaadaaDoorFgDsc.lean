/- Walks: a record with a piece of a message is pushed: the message stands; its header is not kept. -/
import Derived.Test.YtadblfnggmaadaaDoorFgD0
namespace Go.Proofs.YtadblfnggmaadaaDoor
open Go.RowKit Go.Cv
set_option maxRecDepth 100000
set_option linter.unusedVariables false
set_option maxHeartbeats 4000000 in
theorem push_sc (body : List UInt8) (kd ep sq a z L ln : Nat) (x : Option (List (Nat × Nat))) (F : List Nat) (f b n c : Nat) (l : List UInt8) (hL : body.length = L) (hL3 : L ≤ 3000) (haz : a ≤ z) (hzL : z ≤ L) (hl : (body.take z).drop a = l) (hln : a + ln = z) (hkd : kd < 256) (hep : ep < 65536) (hsq : sq < 281474976710656)
    (hn : 25 + ln = n) (hnc : n ≤ c) (hx : ∀ ps, x = some ps → ps.length ≤ 100) (ev : Value) (w : World)
    (hr : Rd w (some ⟨b, 0, none⟩) (vs (headOf 22 254 253 ep sq (12 + ln) [] ++ (hsH kd L 0 a ln ++ l)))) (hB : BufM w F f body kd ep x) (hbF : b ∉ F)
    (v0 : w.cell? ⟨4, 0, none⟩ = some (.int .u8 254) ∧ w.cell? ⟨4, 1, none⟩ = some (.int .u8 255)) (v2 : w.cell? ⟨5, 0, none⟩ = some (.int .u8 254) ∧ w.cell? ⟨5, 1, none⟩ = some (.int .u8 253))
    (ps0 : List (Nat × Nat)) (hxs : x = some ps0) (ha0 : a = 0) (hns : ∃ p ∈ x.getD [], p.1 = 0)
    (hev : w.cell? ⟨0, 0, none⟩ = some ev) :
    Calls Tryd.prog 32 #[.pointer (some ⟨f, 0, none⟩), .slice (some ⟨b, 0, none⟩) n c] w fun e w' => e = .returned (.tuple #[.bool true, .bool false, .nilIface]) ∧ PushPost body kd ep a z x F f b w w' := by
  obtain ⟨e1, e2, s1, s2, s3, s4, s5, s6, c1, c2, hform, he, hs⟩ := rec_form 22 ep sq (12 + ln) hep hsq (hsH kd L 0 a ln ++ l)
  have hll : l.length = ln := by rw [← hl, List.length_drop, List.length_take]; omega
  have hbl : b < w.heap.size := by
    have h := hr.byte 0 (by rw [hform]; simp)
    exact block_lt h
  have hgl0 := block_lt v0.1
  have hgl2 := block_lt v2.1
  simp only at hgl0 hgl2
  have hr13 : Rd w (some ⟨b, 13, none⟩) (vs (hsH kd L 0 a ln ++ l)) := by
    have h := Rd.from_ hr 13
    rwa [show (headOf 22 254 253 ep sq (12 + ln) [] ++ (hsH kd L 0 a ln ++ l)).drop 13 = hsH kd L 0 a ln ++ l from List.drop_left' (head_len _ _ _ _), Nat.zero_add] at h
  have HU := Lib.hid (fun (W : World) (g : Nat) (hW : Below w.heap.size w W) (hg : w.heap.size ≤ g) (hk : Blk W g 110 zeroHd) =>
    unmHdG_plain (.int .u8 0) (.int .u8 0) (.int .u8 0) (.int .u16 0) (.int .u64 0) 0 g b 0 c n 0 none _ (UInt8.ofNat 22) e1 e2 s1 s2 s3 s4 s5 s6 [] ep sq (by decide) (by decide) he hs rfl (by omega) (by omega) hnc W hk (hdIn_of hform (hr.keep hW)) (by omega)
      ⟨keep_of_below hW _ _ v0.1, keep_of_below hW _ _ v0.2⟩ ⟨keep_of_below hW _ _ v2.1, keep_of_below hW _ _ v2.2⟩ (by omega) (by omega))
  obtain ⟨u, hu⟩ : ∃ u, 12 + ln = u := ⟨_, rfl⟩
  have HH := Lib.hid (fun (W : World) (g : Nat) (hW : Below w.heap.size w W) (hg : w.heap.size ≤ g) (hk : Blk W g 90 #[.int .u8 0, .int .u32 0, .int .u16 0, .int .u32 0, .int .u32 0]) =>
    hand_piece g b kd L a ln u (c - 13) l [] hkd hL3 (by omega) (by omega) hu (by omega) hll W hk (hr13.keep hW) (by omega))
  have HDT : Hid (Rd w (some ⟨b, 25, none⟩) (vs l)) := Lib.hid ((by
    have h := Rd.from_ hr13 12
    rwa [show (hsH kd L 0 a ln ++ l).drop 12 = l from List.drop_left' rfl] at h))
  -- the buffer
  obtain ⟨m, sz, cn, hbuf, hszb, hcnb, hno, hyes⟩ : ∃ (m sz cn : Nat), Blk w f 105 (fbRow m 0 (sz : Nat) (cn : Nat)) ∧ sz ≤ 1000000 ∧ cn ≤ 100 ∧
      (x = none → F = [f, m] ∧ f ≠ m ∧ sz = 0 ∧ cn = 0 ∧ Cache w m 0 none) ∧
      (∀ ps, x = some ps → ∃ g E D n c cov R st, F = f :: m :: (foot g E ++ D) ∧ f ≠ m ∧ f ∉ foot g E ++ D ∧ m ∉ foot g E ++ D ∧ sz = bytesOf R ∧ cn = n ∧ Cache w m 1 (some g) ∧ MsgM w body kd ep ps g E D n c cov R st) := by
    cases x with
    | none =>
      obtain ⟨m, rfl, h1, h2, h3⟩ := hB
      exact ⟨m, 0, 0, h2, by omega, by omega, fun _ => ⟨rfl, h1, rfl, rfl, h3⟩, fun ps h => by cases h⟩
    | some ps =>
      obtain ⟨m, g, E, D, n', c', cov, R, st, rfl, h1, h2, h3, h4, h5, h6⟩ := hB
      have hp := hx ps rfl
      have hf := h6.few
      have hl := h6.len
      have hby := bytes_few' h6.kept
      have h100 : R.length * body.length ≤ 100 * 3000 := Nat.mul_le_mul (by omega) (by omega)
      exact ⟨m, bytesOf R, n', h4, by omega, by omega, fun h => by (cases h), fun ps' h => by (cases h; exact ⟨g, E, D, n', c', cov, R, st, rfl, h1, h2, h3, rfl, rfl, h5, h6⟩)⟩
  have HEX := Lib.hid (And.intro hxs (And.intro ha0 hns))
  have HS := Lib.hid (fbSize f m 0 (sz : Nat) (cn : Nat) w hbuf)
  have hx0 : (x.getD []).length ≤ 100 := by
    cases x with
    | none => simp
    | some ps => exact hx ps rfl
  have HB := Lib.hid (And.intro hB (And.intro hbF (And.intro hbl (And.intro hev (And.intro hB.lt hx0)))))
  obtain ⟨t, ht⟩ : ∃ t, sz + n = t := ⟨_, rfl⟩
  have t0 : (sz : Int) + (n : Int) = (t : Int) := by omega
  have d1 : decide ((2000000 : Int) ≤ (t : Int)) = false := by simp; omega
  have d2 : decide (2000000 ≤ t) = false := by simp; omega
  have W1 := Lib.hid (And.intro (w64_all t (by omega)) (i64_nat t (by omega)))
  have HN := Lib.hid (And.intro hn (And.intro hnc (And.intro hln (And.intro hL3 (And.intro hzL (And.intro hL hl))))))
  have HC := Lib.hid (And.intro hbuf (And.intro hno (And.intro hyes hcnb)))
  clear hxs ha0 hns hx0 hr hr13 v0 v2 hev hform he hs hsq hep hkd hx hB hbF hbl hgl0 hgl2 hll hbuf hno hyes hszb hcnb ht hl hL hL3 haz hzL
  obtain ⟨g, E, D, nn, c2, cov, R, st0, h1, h2, h3, h4, h5, h6, h7, h8⟩ := HC.out.2.2.1 ps0 HEX.out.1
  have HSM := Lib.hid (And.intro h1 (And.intro h2 (And.intro h3 (And.intro h4 (And.intro h5 (And.intro h6 (And.intro h7 h8)))))))
  clear h1 h2 h3 h4 h5 h6 h7 h8
  have z1 : ¬ c = 13 := by omega
  have z2 : (13 : Int) ≤ n := by omega
  have z3 : 13 ≤ n := by omega
  have z4 : n - 13 = u := by omega
  have z5 : ¬ u = 0 := by omega
  have HU2 := Lib.hid (And.intro hu (And.intro hn hnc))
  clear hn hnc hln hu
  obtain ⟨w1, w2⟩ := W1.out
  go_enter Tryd.func32, Tryd.ntmps32
  go_wp2_with fail
  refine HS.out.mono ?_
  rintro e w1 ⟨rfl, rfl⟩
  go_wp2_with fail
  have hb3 := below_alloc w (.cells zeroHd 110)
  have hk3 := Blk.new w 110 zeroHd
  have h := HU.out _ w.heap.size hb3 (Nat.le_refl _) hk3
  refine h.mono ?_
  clear h
  rintro e w4 ⟨rfl, hk4, hg4⟩
  have k0 : w4.cell? ⟨w.heap.size, 0, none⟩ = some (.int .u8 22) := (hk4.cell 0).trans rfl
  have HB4 := Lib.hid (((Tch.below hb3 []).then (Tch.grown hg4) (by simp)).toBelow (Nat.le_refl _))
  have HK4 := Lib.hid hk4
  clear hk4 hg4 hb3 hk3 HU HS t0 d1 d2 w1 w2
  go_wp2_with fail
  clear z1 z2 z3 z4
  go_loopw [1, 5] (fun s1 s5 wr => (s1 = .slice (some ⟨b, 13, none⟩) u (c - 13) ∧ s5 = .bool false ∧ wr = w4) ∨ (∃ A' c', s1 = .slice A' 0 c' ∧ s5 = .bool false ∧ Hid (PushPost body kd ep a z x F f b w wr))) (fun x _ _ => lenOf x)
  case atStart => exact .inl ⟨rfl, rfl, rfl⟩
  case round =>
    rcases hrel with ⟨rfl, rfl, rfl⟩ | ⟨A', c', rfl, rfl, HP⟩
    · go_wp2_with fail
      have hb5 := below_alloc wr (.cells #[.int .u8 0, .int .u32 0, .int .u16 0, .int .u32 0, .int .u32 0] 90)
      have hk5 := Blk.new wr 90 #[.int .u8 0, .int .u32 0, .int .u16 0, .int .u32 0, .int .u32 0]
      obtain ⟨p9, hp9⟩ : ∃ p9, wr.heap.size = p9 := ⟨_, rfl⟩
      have HP9 : Hid (w.heap.size ≤ p9) := Lib.hid (by have := HB4.out.size; omega)
      rw [hp9] at hk5
      simp only [hp9]
      refine (HH.out _ p9 (below_two HB4.out hb5) HP9.out hk5).mono ?_
      rintro e w6 ⟨rfl, hk6, hg6⟩
      have HB6 : Hid (Below wr.heap.size wr w6) := Lib.hid (((Tch.below hb5 []).then (Tch.grown hg6) (by simp; omega)).toBelow (Nat.le_refl _))
      have HK6 := Lib.hid hk6
      have HBF := Lib.hid (below_two HB4.out HB6.out)
      have x1 : w6.cell? ⟨p9, 1, none⟩ = some (.int .u32 (L : Nat)) := (hk6.cell 1).trans rfl
      have x2 : w6.cell? ⟨p9, 2, none⟩ = some (.int .u16 0) := (hk6.cell 2).trans rfl
      have x3 : w6.cell? ⟨p9, 3, none⟩ = some (.int .u32 (a : Nat)) := (hk6.cell 3).trans rfl
      have x4 : w6.cell? ⟨p9, 4, none⟩ = some (.int .u32 (ln : Nat)) := (hk6.cell 4).trans rfl
      have y1 : w6.cell? ⟨f, 1, none⟩ = some (.int .u16 0) := ((HC.out.1.keep HBF.out).cell 1).trans (by simp [fbRow])
      clear hk6 hg6 hb5 hk5 hp9 HH k0
      go_upto_region 15 with (fail)
      go_cut [5] (fun s5 wx => s5 = .bool false ∧ Hid (Below w6.heap.size w6 wx))
      case first =>
        have ha0 := HEX.out.2.1
        subst ha0
        go_quiet (fail)
        have HDR := Lib.hid (below_drewN (Below.refl w6.heap.size w6) nq)
        clear x1 x2 x3 x4 y1
        generalize w6.drewN nq = wE at *
        go_wp2_with fail
        go_meet
        case rel => exact ⟨rfl, HDR⟩
      case rest =>
        obtain ⟨rfl, hcut⟩ := hcut
        generalize wc = w8 at *
        have HB8 := Lib.hid (below_two HB6.out hcut.out)
        have HK8 := Lib.hid (HK6.out.keep hcut.out)
        replace x1 := keep_of_below hcut.out _ _ x1
        replace x2 := keep_of_below hcut.out _ _ x2
        replace x3 := keep_of_below hcut.out _ _ x3
        replace x4 := keep_of_below hcut.out _ _ x4
        replace y1 := keep_of_below hcut.out _ _ y1
        clear HB6 HK6 HBF hcut
        have s1 : (12 : Int) + (ln : Int) = (u : Int) := by have := HU2.out; omega
        have W2 := Lib.hid (And.intro (u32_wrap u (by have := HU2.out; have := HN.out; omega)) (And.intro (i64_nat u (by have := HU2.out; have := HN.out; omega)) (w64_all u (by have := HU2.out; have := HN.out; omega))))
        obtain ⟨w1, w2, w3⟩ := W2.out
        go_upto_region 19 with (fail)
        clear w1 w2 w3 s1 z5
        have HCC : Hid (u ≤ c - 13 ∧ 12 ≤ u ∧ u - 12 = ln) := Lib.hid (by have := HU2.out; omega)
        generalize hC : c - 13 = C at *
        go_cut [12] (fun s12 wx => wx = w8 ∧ ∃ A0 c0, s12 = .slice A0 ln c0 ∧ Hid ((ln ≠ 0 → A0 = some ⟨b, 25, none⟩) ∧ ln ≤ c0))
        case first =>
          have i1 : (12 : Int) ≤ (u : Int) := by have := HCC.out; omega
          have i2 : (u : Int) ≤ (C : Int) := by have := HCC.out; omega
          have i3 : u - 12 = ln := HCC.out.2.2
          have i4 : 12 ≤ u := HCC.out.2.1
          have i5 : u ≤ C := HCC.out.1
          by_cases h12 : C = 12
          · have HL0 : Hid (ln = 0) := Lib.hid (by omega)
            go_wp2_with fail
            go_meet
            case rel => exact ⟨rfl, _, _, rfl, Lib.hid ⟨fun h => absurd HL0.out h, by have := HL0.out; omega⟩⟩
          · have HL1 : Hid (ln ≤ C - 12) := Lib.hid (by omega)
            go_wp2_with fail
            go_meet
            case rel => exact ⟨rfl, _, _, rfl, Lib.hid ⟨fun _ => rfl, HL1.out⟩⟩
        case rest =>
          obtain ⟨rfl, A0, c0, rfl, HA0⟩ := hcut
          go_upto_region 20 with (fail)
          go_cut [1] (fun s1 wx' => wx' = wc ∧ ∃ A' c', s1 = .slice A' 0 c')
          case first =>
            have i2 : (u : Int) ≤ (C : Int) := by have := HCC.out; omega
            have i5 : u ≤ C := HCC.out.1
            by_cases h12 : C = u
            · go_wp2_with fail
              go_meet
              case rel => exact ⟨rfl, _, _, rfl⟩
            · go_wp2_with fail
              go_meet
              case rel => exact ⟨rfl, _, _, rfl⟩
          case rest =>
            obtain ⟨rfl, A', c', rfl⟩ := hcut
            have HCe := Lib.hid hC
            clear hC
            have HAL : Hid (a ≤ L ∧ ln ≤ L - a ∧ L ≤ 3000) := Lib.hid (by have := HN.out; omega)
            obtain ⟨r, hr⟩ : ∃ r, L - a = r := ⟨_, rfl⟩
            have e1 : (L : Int) - (a : Int) = (r : Int) := by have := HAL.out; omega
            have d3 : decide (r < ln) = false := by simp; have := HAL.out; omega
            have d4 : decide (L < a) = false := by simp; have := HAL.out; omega
            have W3 := Lib.hid (u32_wrap r (by have := HAL.out; omega))
            clear hr
            have w3 := W3.out
            go_upto_region 21 with (fail)
            go_quiet (fail)
            have HDR := Lib.hid (below_two HB8.out (below_drewN (Below.refl wc.heap.size wc) nq))
            have HKD := Lib.hid (HK8.out.keep (below_drewN (Below.refl wc.heap.size wc) nq))
            clear x1 x2 x3 x4 y1 w3 d3 d4 e1
            generalize wc.drewN nq = w9 at *
            have HB9 := Lib.hid (below_two HB4.out HDR.out)
            have x0 : w9.cell? ⟨p9, 0, none⟩ = some (.int .u8 (kd : Nat)) := (HKD.out.cell 0).trans rfl
            have x1 : w9.cell? ⟨p9, 1, none⟩ = some (.int .u32 (L : Nat)) := (HKD.out.cell 1).trans rfl
            have x2 : w9.cell? ⟨p9, 2, none⟩ = some (.int .u16 0) := (HKD.out.cell 2).trans rfl
            have y0 : w9.cell? ⟨f, 0, none⟩ = some (.map (some m)) := ((HC.out.1.keep HB9.out).cell 0).trans (by simp [fbRow])
            go_upto_region 22 with (fail)
            go_cut [13, 14] (fun s13 s14 wx => s13 = .pointer (some ⟨g, 0, none⟩) ∧ s14 = .bool true ∧ Hid (Below w9.heap.size w9 wx))
            case first =>
              have lk := (HSM.out.2.2.2.2.2.2.1.tch (Tch.below HB9.out []) (by simp)).look
              have lk2 := (HSM.out.2.2.2.2.2.2.1.tch (Tch.below (HB9.out.drew) []) (by simp)).look
              have HD2 := Lib.hid (below_drew w9)
              clear x0 x1
              go_region_with (fail)
              all_goals
              simp only [Act.put]
              dsimp only [List.getElem_toArray, List.getElem_cons_succ, List.getElem_cons_zero]
              simp only [List.setIfInBounds_toArray, List.set_cons_zero, List.set_cons_succ]
              go_wp2_with fail
              go_meet
              case rel => exact ⟨rfl, rfl, HD2⟩
            case rest =>
                obtain ⟨rfl, rfl, hbx⟩ := hcut
                generalize wc = w10 at *
                have HBX := Lib.hid hbx.out
                have HB10' : Hid (Below wr.heap.size wr w10) := Lib.hid (below_two HDR.out hbx.out)
                have HB10 := Lib.hid (below_two HB9.out hbx.out)
                replace HKD := Lib.hid (HKD.out.keep hbx.out)
                replace x0 := keep_of_below hbx.out _ _ x0
                replace x1 := keep_of_below hbx.out _ _ x1
                clear hbx y0 x2 HDR HB9 HBX HB8 HK8
                have h8 := HSM.out.2.2.2.2.2.2.2.tch (Tch.below HB10.out []) (by simp)
                have HM0 : Hid (MidP w F f m sz cn body kd ep (x.getD []) g true w10) := Lib.hid ⟨HB10.out, HSM.out.2.1, HC.out.1.keep HB10.out, E, D, nn, c2, cov, R, st0, by rw [HEX.out.1]; exact h8, HSM.out.2.2.2.2.1, HSM.out.2.2.2.2.2.1, HSM.out.2.2.1, HSM.out.2.2.2.1, fun h => (by cases h), fun _ => ⟨HSM.out.2.2.2.2.2.2.1.tch (Tch.below HB10.out []) (by simp), HSM.out.1⟩⟩
                have hk := h8.fr
                rw [HN.out.2.2.2.2.2.1] at hk
                have g2 : w10.cell? ⟨g, 2, none⟩ = some (.int .u8 (kd : Nat)) := (hk.cell 2).trans (by cases st0 <;> simp [frRow, restRow])
                have g3 : w10.cell? ⟨g, 3, none⟩ = some (.int .u32 (L : Nat)) := (hk.cell 3).trans (by cases st0 <;> simp [frRow, restRow])
                clear h8 hk
                go_upto_region 25 with (fail)
                go_quiet (fail)
                have HBW := Lib.hid (below_drewN (Below.refl w10.heap.size w10) nq)
                have HM : Hid (MidP w F f m sz cn body kd ep (x.getD []) g true (w10.drewN nq)) := Lib.hid (HM0.out.keep HBW.out)
                clear g2 g3 HM0
                generalize w10.drewN nq = w11 at *
                have x3 : w11.cell? ⟨p9, 3, none⟩ = some (.int .u32 (a : Nat)) := ((HKD.out.keep HBW.out).cell 3).trans rfl
                have y3 : w11.cell? ⟨f, 3, none⟩ = some (.int .i64 (cn : Nat)) := (HM.out.2.2.1.cell 3).trans (by simp [fbRow])
                clear x0 x1
                obtain ⟨av, hav⟩ : ∃ av : Int, 1000 - (cn : Int) = av := ⟨_, rfl⟩
                have HAD : Hid (∀ W, Below w11.heap.size w11 W → Calls Tryd.prog 28 #[.pointer (some ⟨g, 0, none⟩), .int .u32 (a : Nat), .slice A0 ln c0, .int .i64 av] W fun e w' =>
                    ∃ (dn db : Int), e = .returned (.tuple #[.int .i64 dn, .int .i64 db, .nilIface]) ∧ Blk w' p9 90 #[.int .u8 (kd : Nat), .int .u32 (L : Nat), .int .u16 0, .int .u32 (a : Nat), .int .u32 (ln : Nat)] ∧ Blk w' w.heap.size 110 (hr1g 22 ep sq 0 none 0 0) ∧
                      ∃ (E : Option Addr) (D : List Nat) (n c cov : Nat) (R : List Rg) (st : Option Nat), Aft w w' F f m body kd ep (x.getD [] ++ [(a, z)]) b g (nOf true) (gOf true g) E D n c cov R st (sz : Nat) (cn : Nat) ∧ (cn : Int) + dn = (n : Int) ∧ (sz : Int) + db = (bytesOf R : Int) ∧ (st.isSome = true ↔ ∃ p ∈ x.getD [], p.1 = 0) ∧ n ≤ 101 ∧ bytesOf R ≤ 303000) := by
                  refine Lib.hid fun W hW => ?_
                  have hbW := below_two HM.out.1 hW
                  have h7 := HK4.out.keep (below_two HB10'.out (below_two HBW.out hW))
                  exact addMid (l := l) (HM.out.keep hW) (by rw [HN.out.2.2.2.2.2.1]; exact HN.out.2.2.2.1) HN.out.2.2.1 (by rw [HN.out.2.2.2.2.2.1]; exact HN.out.2.2.2.2.1) HN.out.2.2.2.2.2.2 A0 c0 HA0.out.1 HA0.out.2 (HDT.out.keep hbW) HB.out.2.1 HB.out.2.2.1 HB.out.2.2.2.2.1 HB.out.2.2.2.2.2 ev (keep_of_below hbW _ _ HB.out.2.2.2.1) av (by have := HC.out.2.2.2; omega) (HKD.out.keep (below_two HBW.out hW)) h7 HP9.out (Nat.le_refl _)
                have HAV := Lib.hid hav
                have W4 : Hid (wrap64 av = av ∧ IntKind.i64.wrap av = av) := Lib.hid (by have := HC.out.2.2.2; exact ⟨by unfold wrap64; omega, by rw [IntKind.wrap_i64]; omega⟩)
                obtain ⟨w1, w2⟩ := W4.out
                go_upto_region 26 with (fail)
                go_cut [15, 16, 17] (fun s15 s16 s17 wx => ∃ (dn db : Int), s15 = .int .i64 dn ∧ s16 = .int .i64 db ∧ s17 = .nilIface ∧ Hid (Blk wx p9 90 #[.int .u8 (kd : Nat), .int .u32 (L : Nat), .int .u16 0, .int .u32 (a : Nat), .int .u32 (ln : Nat)] ∧ Blk wx w.heap.size 110 (hr1g 22 ep sq 0 none 0 0)) ∧
                    ∃ (E : Option Addr) (D : List Nat) (n c cov : Nat) (R : List Rg) (st : Option Nat), Hid (Aft w wx F f m body kd ep (x.getD [] ++ [(a, z)]) b g (nOf true) (gOf true g) E D n c cov R st (sz : Nat) (cn : Nat)) ∧ Hid ((cn : Int) + dn = (n : Int) ∧ (sz : Int) + db = (bytesOf R : Int) ∧ (st.isSome = true ↔ ∃ p ∈ x.getD [], p.1 = 0) ∧ n ≤ 101 ∧ bytesOf R ≤ 303000))
                case first =>
                  go_region_law (first
                    | (go_simp; go_at_call 28; (with_reducible refine (HAD.out _ (by (repeat (first | assumption | exact Below.refl _ _ | refine Below.drew ?_ | refine Below.setCell ?_ (by first | omega | (simp; done) | (simp; omega)) _ | refine Below.alloc ?_ (by first | omega | (simp; done) | (simp; omega)) _)))).mono ?_); rintro e w12 ⟨dn, db, rfl, hk9, hk7, hA⟩))
                  all_goals
                  simp only [Act.put]
                  dsimp only [List.getElem_toArray, List.getElem_cons_succ, List.getElem_cons_zero]
                  simp only [List.setIfInBounds_toArray, List.set_cons_zero, List.set_cons_succ]
                  obtain ⟨E1, D1, n1, cE1, cov1, R1, st, hA1, hA2⟩ := hA
                  have HFF := Lib.hid (And.intro (And.intro hk9 hk7) (And.intro hA1 hA2))
                  clear hk9 hk7 hA1 hA2 w1 w2 x3 y3
                  go_wp2_with fail
                  go_meet
                  case rel => exact ⟨dn, db, rfl, rfl, rfl, Lib.hid HFF.out.1, E1, D1, n1, cE1, cov1, R1, st, Lib.hid HFF.out.2.1, Lib.hid HFF.out.2.2⟩
                case rest =>
                obtain ⟨dn, db, rfl, rfl, rfl, HK12, E1, D1, n1, cE1, cov1, R1, st, HAF, HAN⟩ := hcut
                generalize wc = w12 at *
                clear w1 w2 hav x3 y3 HAD HM HBW
                have HA2 : Hid (Aft w w12 F f m body kd ep (x.getD [] ++ [(a, z)]) b g 1 (some g) E1 D1 n1 cE1 cov1 R1 st (sz : Nat) (cn : Nat)) := HAF
                have HK2 := HK12
                generalize w12 = w15 at *
                have x3 : w15.cell? ⟨p9, 3, none⟩ = some (.int .u32 (a : Nat)) := (HK2.out.1.cell 3).trans rfl
                have g10 : w15.cell? ⟨g, 10, none⟩ = some (.bool st.isSome) := (HA2.out.msg.fr.cell 10).trans (by cases st <;> simp [frRow, restRow])
                go_upto_region 31 with (fail)
                have HST : Hid (st.isSome = true ↔ ∃ p ∈ x.getD [] ++ [(a, z)], p.1 = 0) := Lib.hid (by
                  rw [HAN.out.2.2.1]
                  constructor
                  · rintro ⟨p, hp, h⟩; exact ⟨p, List.mem_append.2 (.inl hp), h⟩
                  · rintro ⟨p, hp, h⟩
                    rcases List.mem_append.1 hp with hp | hp
                    · exact ⟨p, hp, h⟩
                    · simp at hp; subst hp
                      exact HEX.out.2.2)
                go_cut [164] (fun s164 wx => wx = w15 ∧ s164 = .bool false)
                case first =>
                  have hs : st.isSome = true := HAN.out.2.2.1.2 HEX.out.2.2
                  rw [hs] at g10
                  clear hs
                  have ha0 := HEX.out.2.1
                  subst ha0
                  go_wp2_with fail
                  go_meet
                  case rel => exact ⟨rfl, rfl⟩
                case rest =>
                obtain ⟨rfl, rfl⟩ := hcut
                have HA3 : Hid (Aft w wc F f m body kd ep (x.getD [] ++ [(a, z)]) b g 1 (some g) E1 D1 n1 cE1 cov1 R1 st (sz : Nat) (cn : Nat) ∧ (st.isSome = true ↔ ∃ p ∈ x.getD [] ++ [(a, z)], p.1 = 0)) := Lib.hid ⟨HA2.out, HST.out⟩
                go_upto_region 35 with (fail)
                clear x3 g10
                generalize wc = w17 at *
                have hfb := HA3.out.1.fb
                have c2 : w17.cell? ⟨f, 2, none⟩ = some (.int .i64 (sz : Nat)) := (hfb.cell 2).trans (by simp [fbRow])
                have c3 : w17.cell? ⟨f, 3, none⟩ = some (.int .i64 (cn : Nat)) := (hfb.cell 3).trans (by simp [fbRow])
                have f2 := hfb.frozen 2
                have f3 := hfb.frozen 3
                obtain ⟨yb, hyb⟩ : ∃ yb, bytesOf R1 = yb := ⟨_, rfl⟩
                have HYB := Lib.hid hyb
                have e1 : (cn : Int) + dn = (n1 : Int) := HAN.out.1
                have e2 : (sz : Int) + db = (yb : Int) := by rw [← hyb]; exact HAN.out.2.1
                have HW : Hid ((wrap64 (n1 : Int) = (n1 : Int) ∧ IntKind.i64.wrap (n1 : Int) = (n1 : Int)) ∧ (wrap64 (yb : Int) = (yb : Int) ∧ IntKind.i64.wrap (yb : Int) = (yb : Int))) := Lib.hid (by
                  have h1 := HAN.out.2.2.2.1
                  have h2 := HAN.out.2.2.2.2
                  rw [hyb] at h2
                  exact ⟨⟨w64_all n1 (by omega), i64_nat n1 (by omega)⟩, ⟨w64_all yb (by omega), i64_nat yb (by omega)⟩⟩)
                have HDN : Hid (PushPost body kd ep a z x F f b w ((w17.setCell ⟨f, 3, none⟩ (.int .i64 (n1 : Nat))).setCell ⟨f, 2, none⟩ (.int .i64 (yb : Nat)))) := Lib.hid (by
                  refine Aft.done (HA3.out.1.fbs ((Tch.set w17 f 3 _).trans (Tch.set _ f 2 _)) ?_) HA3.out.2
                  have h := (hfb.set_ 3 (.int .i64 (n1 : Nat))).set_ 2 (.int .i64 (yb : Nat))
                  rw [fb_set] at h
                  rw [hyb]
                  exact h)
                have HU0 : Hid (0 < u) := Lib.hid (by have := HU2.out; omega)
                clear hfb hyb
                obtain ⟨⟨w1, w2⟩, w3, w4⟩ := HW.out
                go_wp2_with fail
                go_roundw
                case rel =>
                  have hce := HCe.out
                  subst hce
                  repeat apply Exists.intro
                  exact ⟨.inr ⟨A', c', rfl, rfl, HDN⟩, rfl⟩
                case measure => exact HU0.out
    · go_wp2_with fail
      go_ret3
      exact ⟨rfl, HP.out⟩
end Go.Proofs.YtadblfnggmaadaaDoor
