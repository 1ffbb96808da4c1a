/- The law of a message that comes in pieces. -/
import Derived.Test.YtadblfnggmaadaaDoorFgX
import Derived.Test.YtadblfnggmaadaaDoorFgR
namespace Go.Proofs.YtadblfnggmaadaaDoor
open Go.RowKit Go.Cv
set_option maxRecDepth 100000
set_option linter.unusedVariables false
theorem fstepinfo : (Tryd.prog.info? 47).map (fun i => (i.zero, i.size, i.bytes)) = some (some (.agg #[.bool false, .string ByteArray.empty]), 2, 24) := by kernel_rfl
theorem sfv_one (s : Sf) : ∀ v ∈ sfv s, v.oneCell' = true := by
  intro v hv
  simp [sfv] at hv
  rcases hv with rfl | rfl <;> rfl
set_option maxHeartbeats 4000000 in
theorem wholeLaw (kd ep : Nat) (body : List UInt8) (A : Option Addr) (n c : Nat) (ps : List (Int × Int)) (hkd : kd < 256) (hep : ep < 65536) (hn : ps.length = n) (ev : Value) (w : World) (hr : Rd w A (rowsOf ipv ps))
    (v0 : w.cell? ⟨4, 0, none⟩ = some (.int .u8 254) ∧ w.cell? ⟨4, 1, none⟩ = some (.int .u8 255)) (v2 : w.cell? ⟨5, 0, none⟩ = some (.int .u8 254) ∧ w.cell? ⟨5, 1, none⟩ = some (.int .u8 253))
    (hev : w.cell? ⟨0, 0, none⟩ = some ev) :
    Calls Tryd.prog 5 #[.agg #[.int .u8 (kd : Nat), .string (S body), .slice A n c], .int .u16 (ep : Nat)] w fun e w' => e = .returned (.bool true) ∧ Below w.heap.size w w' := by
  obtain ⟨L, hL⟩ : ∃ L, body.length = L := ⟨_, rfl⟩
  have HR := Lib.hid (And.intro hr (And.intro v0 (And.intro v2 hev)))
  have HN := Lib.hid (And.intro hn (And.intro hkd (And.intro hep hL)))
  have HFT := Lib.hid (fun W => fits_any (kd : Nat) body A n c L hL W)
  have HCV := Lib.hid (fun W (hW : Below w.heap.size w W) => covered_any (kd : Nat) body A n c L ps hL hn W (hr.keep hW))
  clear hr v0 v2 hev hkd hep hn hL
  go_enter Tryd.func5, Tryd.ntmps5
  go_upto_region 1 with (fail)
  have hb1 := below_alloc w (.cells #[.int .u8 (kd : Nat), .string (S body), .slice A n c] 41)
  have hk1 := Blk.new w 41 #[.int .u8 (kd : Nat), .string (S body), .slice A n c]
  obtain ⟨p, hp⟩ : ∃ p, w.heap.size = p := ⟨_, rfl⟩
  simp only [hp] at hk1 ⊢
  have HP : Hid (w.heap.size = p) := Lib.hid hp
  have HB1 := Lib.hid (And.intro hb1 hk1)
  clear hb1 hk1 hp
  generalize w.alloc (.cells #[.int .u8 (kd : Nat), .string (S body), .slice A n c] 41) = w1 at *
  have q0 : w1.cell? ⟨p, 0, none⟩ = some (.int .u8 (kd : Nat)) := (HB1.out.2.cell 0).trans rfl
  have q1 : w1.cell? ⟨p, 1, none⟩ = some (.string (S body)) := (HB1.out.2.cell 1).trans rfl
  have q2 : w1.cell? ⟨p, 2, none⟩ = some (.slice A n c) := (HB1.out.2.cell 2).trans rfl
  go_wp2_with fail
  refine (HFT.out w1).mono ?_
  rintro e w2 ⟨d, rfl, HD, hb2⟩
  have HB2 : Hid (Below w.heap.size w w2 ∧ Blk w2 p 41 #[.int .u8 (kd : Nat), .string (S body), .slice A n c]) := Lib.hid ⟨below_two HB1.out.1 hb2, HB1.out.2.keep hb2⟩
  clear hb2 q0 q1 q2
  cases d
  case false =>
    go_wp2_with fail
    go_ret
    exact ⟨rfl, HB2.out.1⟩
  case true =>
  have q0 : w2.cell? ⟨p, 0, none⟩ = some (.int .u8 (kd : Nat)) := (HB2.out.2.cell 0).trans rfl
  have q1 : w2.cell? ⟨p, 1, none⟩ = some (.string (S body)) := (HB2.out.2.cell 1).trans rfl
  have q2 : w2.cell? ⟨p, 2, none⟩ = some (.slice A n c) := (HB2.out.2.cell 2).trans rfl
  go_wp2_with fail
  refine (HCV.out w2 HB2.out.1).mono ?_
  rintro e w3 ⟨d, rfl, HD3, hb3⟩
  have HB3 : Hid (Below w.heap.size w w3 ∧ Blk w3 p 41 #[.int .u8 (kd : Nat), .string (S body), .slice A n c]) := Lib.hid ⟨below_two HB2.out.1 hb3, HB2.out.2.keep hb3⟩
  clear hb3 q0 q1 q2 HFT HCV
  cases d
  case false =>
    go_wp2_with fail
    go_ret
    exact ⟨rfl, HB3.out.1⟩
  case true =>
  obtain ⟨hL3, hn60, hn0, pn, hrt, hcv⟩ := HD3.out rfl
  have hpl : pn.length = n := by rw [← HN.out.1, hrt.1, List.length_map]
  have HC := Lib.hid (And.intro hL3 (And.intro (HN.out.1 ▸ hn60) (And.intro (HN.out.1 ▸ hn0) (And.intro hrt (And.intro hcv hpl)))))
  clear hL3 hn60 hn0 hrt hcv hpl
  obtain ⟨b1, o1, hA⟩ : ∃ b1 o1, A = some ⟨b1, o1, none⟩ := by
    have hne : rowsOf ipv ps ≠ [] := fun h => by
      have := congrArg List.length h
      rw [rowsOf_length ipv 2 ipv_length, HN.out.1] at this; simp at this; have := HC.out.2.2.1; omega
    obtain ⟨b1, o1, h, _⟩ := HR.out.1.resolve_left hne
    exact ⟨b1, o1, h⟩
  subst hA
  have q2 : w3.cell? ⟨p, 2, none⟩ = some (.slice (some ⟨b1, o1, none⟩) n c) := (HB3.out.2.cell 2).trans rfl
  go_wp2_with fail
  clear q2
  go_loopw [22, 5] (fun x y wr => ∃ (j co : Nat) (O : Option Addr), j ≤ n ∧ x = .int .i64 (j : Nat) ∧ y = .slice O j co ∧ Hid (Below w.heap.size w wr ∧ Blk wr p 41 #[.int .u8 (kd : Nat), .string (S body), .slice (some ⟨b1, o1, none⟩) n c] ∧ Hi (w.heap.size + 1) O ∧ Own wr 0 2 O j co (rowsOf sfv (steps body kd ep pn j)))) (fun x _ _ => n - (intOf x).toNat)
  case atStart => exact ⟨0, 0, none, Nat.zero_le _, rfl, rfl, Lib.hid ⟨HB3.out.1, HB3.out.2, .inl rfl, Own.nil _ _ _⟩⟩
  case round =>
    obtain ⟨j, co, O, hj, rfl, rfl, HM⟩ := hrel
    by_cases hlt : j < n
    · obtain ⟨⟨a, z⟩, hz⟩ : ∃ z, pn[j]? = some z := ⟨_, List.getElem?_eq_getElem (by have := HC.out.2.2.2.2.2; omega)⟩
      have hz2 : ps[j]? = some ((a : Int), (z : Int)) := by rw [HC.out.2.2.2.1.1, List.getElem?_map, hz]; rfl
      obtain ⟨h1, h2, h3⟩ := HC.out.2.2.2.1.2 (a, z) (List.mem_of_getElem? hz)
      simp only at h1 h2 h3
      obtain ⟨ln, hln⟩ : ∃ ln, z - a = ln := ⟨_, rfl⟩
      obtain ⟨l, hl⟩ : ∃ l, (body.take z).drop a = l := ⟨_, rfl⟩
      have HST : Hid (stepP body kd ep pn j = ⟨true, headOf 22 254 253 ep (j &&& 281474976710655) (12 + ln) [] ++ (hsH kd L 0 a ln ++ l)⟩) := Lib.hid (by simp only [stepP, hz, hln, hl, HN.out.2.2.2])
      have HPC := Lib.hid (fun W => piece_any kd ep j a z ln body l (some ⟨b1, o1, none⟩) n c L HN.out.2.2.2 HC.out.1 HN.out.2.1 HN.out.2.2.1 (by have := HC.out.2.1; omega) (by omega) h2 hl W)
      have c0 := rowsCell ipv_length (HR.out.1.keep HM.out.1) j _ hz2 0 (by omega) _ rfl
      have c1 := rowsCell ipv_length (HR.out.1.keep HM.out.1) j _ hz2 1 (by omega) _ rfl
      rw [Nat.add_zero] at c0
      have jn : (j : Int) < n := by omega
      have HLT := Lib.hid hlt
      clear hz hz2 h1 h2 h3 hln hl hlt
      go_upto_region 9 with (fail)
      have hb4 := below_alloc wr (.cells #[.int .i64 (a : Nat), .int .i64 (z : Nat)] 26)
      have hk4 := Blk.new wr 26 #[.int .i64 (a : Nat), .int .i64 (z : Nat)]
      obtain ⟨q, hq⟩ : ∃ q, wr.heap.size = q := ⟨_, rfl⟩
      rw [hq] at hk4
      simp only [hq]
      have HM4 := Lib.hid (And.intro (below_two HM.out.1 hb4) (And.intro (HM.out.2.1.keep hb4) (And.intro hk4 (And.intro HM.out.2.2.1 (HM.out.2.2.2.keep hb4)))))
      clear hb4 hk4 c0 c1 HM hq
      generalize wr.alloc (.cells #[.int .i64 (a : Nat), .int .i64 (z : Nat)] 26) = w4 at *
      have q0 : w4.cell? ⟨p, 0, none⟩ = some (.int .u8 (kd : Nat)) := (HM4.out.2.1.cell 0).trans rfl
      have q1 : w4.cell? ⟨p, 1, none⟩ = some (.string (S body)) := (HM4.out.2.1.cell 1).trans rfl
      have q2 : w4.cell? ⟨p, 2, none⟩ = some (.slice (some ⟨b1, o1, none⟩) n c) := (HM4.out.2.1.cell 2).trans rfl
      have d0 : w4.cell? ⟨q, 0, none⟩ = some (.int .i64 (a : Nat)) := (HM4.out.2.2.1.cell 0).trans rfl
      have d1 : w4.cell? ⟨q, 1, none⟩ = some (.int .i64 (z : Nat)) := (HM4.out.2.2.1.cell 1).trans rfl
      have u1 := u64_of j (by have := HC.out.2.1; have := HLT.out; omega)
      obtain ⟨rec, hrec⟩ : ∃ rec, headOf 22 254 253 ep (j &&& 281474976710655) (12 + ln) [] ++ (hsH kd L 0 a ln ++ l) = rec := ⟨_, rfl⟩
      rw [hrec] at HST HPC
      clear hrec
      go_wp2_with fail
      refine (HPC.out w4).mono ?_
      rintro e w5 ⟨rfl, hb5⟩
      have HM5 := Lib.hid (And.intro (below_two HM4.out.1 hb5) (And.intro (HM4.out.2.1.keep hb5) (And.intro HM4.out.2.2.2.1 (HM4.out.2.2.2.2.keep hb5))))
      have HSB : Hid ((j + 1) * 24 ≤ 140737488355328 ∧ j + 1 ≤ maxLen) := Lib.hid (by have := HC.out.2.1; have := HLT.out; simp only [maxLen]; omega)
      clear hb5 q0 q1 q2 d0 d1 u1 HPC
      go_wp2_with (at_builtin; refine Held.on ?_)
      refine held_append rfl (.tmp 27) (.tmp 35) 49 49 rfl 0 47 _ 2 24 Tryd.underlying49 (.inl Tryd.underlying49) fstepinfo rfl (by omega) (xs := rowsOf sfv (steps body kd ep pn j)) (ys := sfv ⟨true, rec⟩) (m := 1) rfl rfl (HM5.out.2.2.2.keep (below_alloc w5 _)) ⟨rfl, sfv_one _, .inl ⟨_, _, rfl, rd_new w5 47 #[.bool true, .string (S rec)]⟩⟩ HSB.out.1 HSB.out.2 (Nat.zero_le _) ?_
      intro O' co' w6 hO hg hor
      have hs5 := HM5.out.1.size
      have hpl := HM5.out.2.1.lt
      have hwp := HP.out
      have ht : Tch (O.map (·.block)).toList w5 w6 := ((Tch.alloc w5 _).more (by simp)).trans (Tch.grown hg)
      have HM6 : Hid (Below w.heap.size w w6 ∧ Blk w6 p 41 #[.int .u8 (kd : Nat), .string (S body), .slice (some ⟨b1, o1, none⟩) n c] ∧ Hi (w.heap.size + 1) O' ∧ Own w6 0 2 O' (j + 1) co' (rowsOf sfv (steps body kd ep pn (j + 1)))) := Lib.hid ⟨((Tch.below HM5.out.1 []).then ht (fun k hk => .inr (by have := HM5.out.2.2.1.inn k hk; omega))).toBelow (Nat.le_refl _), HM5.out.2.1.tch ht (HM5.out.2.2.1.notin (by omega)), HM5.out.2.2.1.new hor (by simp; omega), by
        rw [steps_snoc, rowsOf_append, HST.out]
        simpa [rowsOf] using hO⟩
      have hlt := HLT.out
      have jw : wrap64 ((j : Int) + 1) = (j : Int) + 1 := w64_inc hlt (by have := HC.out.2.1; omega)
      clear hO hg hor hs5 hpl hwp ht
      go_wp2_with fail
      go_roundw
      case rel => exact ⟨j + 1, co', O', hlt, by first | (rw [jw]; go_num) | go_num, rfl, HM6⟩
      case measure => first | exact t_measD hlt | (rw [jw]; exact t_measD hlt)
    · obtain rfl : j = n := by omega
      have t1 : ¬ j < j := Nat.lt_irrefl _
      have HSB : Hid ((j + 2) * 24 ≤ 140737488355328 ∧ j + 2 ≤ maxLen) := Lib.hid (by have := HC.out.2.1; simp only [maxLen]; omega)
      clear hlt
      go_wp2_with (at_builtin; refine Held.on ?_)
      refine held_append rfl (.tmp 38) (.tmp 41) 49 49 rfl 0 47 _ 2 24 Tryd.underlying49 (.inl Tryd.underlying49) fstepinfo rfl (by omega) (xs := rowsOf sfv (steps body kd ep pn j)) (ys := sfv popS ++ sfv popS) (m := 2) rfl rfl (HM.out.2.2.2.keep (below_alloc wr _)) ⟨rfl, by intro v hv; rcases List.mem_append.1 hv with h | h <;> exact sfv_one _ v h, .inl ⟨_, _, rfl, rd_new wr 47 #[.bool false, .string { data := #[] }, .bool false, .string { data := #[] }]⟩⟩ HSB.out.1 HSB.out.2 (Nat.zero_le _) ?_
      intro O' co' w6 hO hg hor
      have hs5 := HM.out.1.size
      have hpl := HM.out.2.1.lt
      have hwp := HP.out
      have ht : Tch (O.map (·.block)).toList wr w6 := ((Tch.alloc wr _).more (by simp)).trans (Tch.grown hg)
      obtain ⟨N2, hN2⟩ : ∃ N2, j + 2 = N2 := ⟨_, rfl⟩
      rw [hN2] at hO ⊢
      have HM6 : Hid (Below w.heap.size w w6 ∧ Blk w6 p 41 #[.int .u8 (kd : Nat), .string (S body), .slice (some ⟨b1, o1, none⟩) j c] ∧ Own w6 0 2 O' N2 co' (rowsOf sfv (steps body kd ep pn j ++ [popS, popS]))) := Lib.hid ⟨((Tch.below HM.out.1 []).then ht (fun k hk => .inr (by have := HM.out.2.2.1.inn k hk; omega))).toBelow (Nat.le_refl _), HM.out.2.1.tch ht (HM.out.2.2.1.notin (by omega)), by
        rw [rowsOf_append]
        simpa [rowsOf] using hO⟩
      have HFR := Lib.hid (frags_any body kd ep (steps body kd ep pn j ++ [popS, popS]) N2 co' O' (sigW pn j) (outW body kd ep j) (by rw [List.length_append, steps_length]; exact hN2) (by have := HC.out.2.1; omega) (by rw [HN.out.2.2.2]; exact HC.out.1) HN.out.2.1 HN.out.2.2.1 (stepsW body kd ep j pn HC.out.2.2.2.2.2 HC.out.2.2.1 HC.out.2.1 (by rw [HN.out.2.2.2]; exact HC.out.2.2.2.1.2) (by rw [HN.out.2.2.2]; exact HC.out.2.2.2.2.1)).1 (stepsW body kd ep j pn HC.out.2.2.2.2.2 HC.out.2.2.1 HC.out.2.1 (by rw [HN.out.2.2.2]; exact HC.out.2.2.2.1.2) (by rw [HN.out.2.2.2]; exact HC.out.2.2.2.2.1)).2 ev w6 HM6.out.2.2.rd
        ⟨keep_of_below HM6.out.1 _ _ HR.out.2.1.1, keep_of_below HM6.out.1 _ _ HR.out.2.1.2⟩ ⟨keep_of_below HM6.out.1 _ _ HR.out.2.2.1.1, keep_of_below HM6.out.1 _ _ HR.out.2.2.1.2⟩ (keep_of_below HM6.out.1 _ _ HR.out.2.2.2))
      have HN2 := Lib.hid hN2
      clear hO hg hor hs5 hpl hwp ht hN2
      go_wp2_with fail
      refine HFR.out.mono ?_
      rintro e w7 ⟨O7, co7, T, rfl, hco, hT, hrd, hma, hb7⟩
      have hne : rowsOf tfv T ≠ [] := fun h => by
        have := congrArg List.length h
        rw [rowsOf_length tfv 7 tfv_length, hT] at this; simp at this; have := HN2.out; omega
      obtain ⟨b7, o7, rfl, _⟩ := hrd.resolve_left hne
      have HM7 := Lib.hid (And.intro (below_two HM6.out.1 hb7) (And.intro (HM6.out.2.1.keep hb7) (And.intro hrd (And.intro hT (And.intro hma hco)))))
      clear hne hrd hT hma hb7 HFR
      have q2 : w7.cell? ⟨p, 2, none⟩ = some (.slice (some ⟨b1, o1, none⟩) j c) := (HM7.out.2.1.cell 2).trans rfl
      have i1 : (j : Int) ≤ (co7 : Int) := by have := HM7.out.2.2.2.2.2; have := HN2.out; omega
      have i2 : j ≤ co7 := by have := HM7.out.2.2.2.2.2; have := HN2.out; omega
      clear hco
      go_wp2_with fail
      clear q2 i1 i2
      go_loopw [56] (fun x wr => ∃ i : Nat, i ≤ j ∧ x = .int .i64 (i : Nat) ∧ Hid (Below w7.heap.size w7 wr)) (fun x _ => j - (intOf x).toNat)
      case atStart => exact ⟨0, Nat.zero_le _, rfl, Lib.hid (Below.refl _ _)⟩
      case round =>
        obtain ⟨i, hi, rfl, HI⟩ := hrel
        by_cases hlt : i < j
        · obtain ⟨tt, htt⟩ : ∃ t, T[i]? = some t := ⟨_, List.getElem?_eq_getElem (by have := HM7.out.2.2.2.1; have := HN2.out; omega)⟩
          have hok := HM7.out.2.2.2.2.1 i tt htt
          have ho : outW body kd ep j i = ⟨true, false, [], 0⟩ := by simp [outW, hlt]
          rw [ho] at hok
          have hrd := HM7.out.2.2.1.keep HI.out
          obtain ⟨ths, tag, tfl, thas, tct, tep, tsz⟩ := tt
          obtain ⟨h1, h2, h3, h4, h5⟩ := hok
          simp only at h1 h2 h3 h4 h5
          subst h1 h2 h3 h4 h5
          have c0 := rowsCell tfv_length hrd i _ htt 0 (by omega) _ rfl
          have c1 := rowsCell tfv_length hrd i _ htt 1 (by omega) _ rfl
          have c2 := rowsCell tfv_length hrd i _ htt 2 (by omega) _ rfl
          have c3 := rowsCell tfv_length hrd i _ htt 3 (by omega) _ rfl
          have c4 := rowsCell tfv_length hrd i _ htt 4 (by omega) _ rfl
          have c5 := rowsCell tfv_length hrd i _ htt 5 (by omega) _ rfl
          have c6 := rowsCell tfv_length hrd i _ htt 6 (by omega) _ rfl
          rw [Nat.add_zero] at c0
          have i1 : (i : Int) < j := by omega
          have jw : wrap64 ((i : Int) + 1) = (i : Int) + 1 := w64_inc hlt (by have := HC.out.2.1; omega)
          have HLT := Lib.hid hlt
          clear htt ho hrd hlt
          go_wp2_with fail
          have hlt := HLT.out
          go_roundw
          case rel => exact ⟨i + 1, hlt, by first | (rw [jw]; go_num) | go_num, Lib.hid (below_two HI.out (below_alloc _ _))⟩
          case measure => first | exact t_measD hlt | (rw [jw]; exact t_measD hlt)
        · obtain rfl : i = j := by omega
          have t1 : ¬ i < i := Nat.lt_irrefl _
          obtain ⟨ta, hta⟩ : ∃ t, T[i]? = some t := ⟨_, List.getElem?_eq_getElem (by have := HM7.out.2.2.2.1; have := HN2.out; omega)⟩
          obtain ⟨tb, htb⟩ : ∃ t, T[i + 1]? = some t := ⟨_, List.getElem?_eq_getElem (by have := HM7.out.2.2.2.1; have := HN2.out; omega)⟩
          have hoka := HM7.out.2.2.2.2.1 i ta hta
          have hokb := HM7.out.2.2.2.2.1 (i + 1) tb htb
          have hoa : outW body kd ep i i = ⟨false, true, hsW kd body.length ++ body, ep⟩ := by simp [outW]
          have hob : outW body kd ep i (i + 1) = ⟨false, false, [], 0⟩ := by
            simp only [outW]
            rw [if_neg (by omega), if_neg (by omega)]
          rw [hoa] at hoka
          rw [hob] at hokb
          have hrd := HM7.out.2.2.1.keep HI.out
          obtain ⟨j1, hj1⟩ : ∃ j1, i + 1 = j1 := ⟨_, rfl⟩
          rw [hj1] at htb
          obtain ⟨ahs, aag, afl, ahas, act, aep, asz⟩ := ta
          obtain ⟨bhs, bag, bfl, bhas, bct, bep, bsz⟩ := tb
          obtain ⟨h1, h2, h3, h4, h5⟩ := hoka
          obtain ⟨k1, k2, k3, k4, k5⟩ := hokb
          simp only at h1 h2 h3 h4 h5 k1 k2 k3 k4 k5
          replace h5 := h5.symm
          subst h1 h2 h3 h5 k1 k2 k3 k4 k5
          have HCT : Hid (act = hsW kd L ++ body) := Lib.hid (by rw [h4, HN.out.2.2.2])
          have HTA := Lib.hid (And.intro hta htb)
          have e1 : (N2 : Int) - 2 = (i : Int) := by have := HN2.out; omega
          have e2 : (N2 : Int) - 1 = (j1 : Int) := by have := HN2.out; omega
          have i1 : (i : Int) < N2 := by have := HN2.out; omega
          have i2 : (j1 : Int) < N2 := by have := HN2.out; omega
          have HW : Hid ((wrap64 (i : Int) = i ∧ IntKind.i64.wrap (i : Int) = i) ∧ (wrap64 (j1 : Int) = j1 ∧ IntKind.i64.wrap (j1 : Int) = j1)) := Lib.hid (by have := HC.out.2.1; exact ⟨⟨w64_all i (by omega), i64_nat i (by omega)⟩, ⟨w64_all j1 (by omega), i64_nat j1 (by omega)⟩⟩)
          clear hta htb hoa hob hrd h4 hj1 hlt hi
          go_upto_region 21 with (fail)
          obtain ⟨⟨w1', w2'⟩, w3', w4'⟩ := HW.out
          go_cut [11, 12] (fun s11 s12 wx => ∃ pa pb : Nat, s11 = .pointer (some ⟨pa, 0, none⟩) ∧ s12 = .pointer (some ⟨pb, 0, none⟩) ∧ Hid (Below wr.heap.size wr wx ∧ Blk wx pa 53 #[.bool false, .bool aag, .bool false, .bool true, .string (S act), .int .u16 (ep : Nat), .int .i64 asz] ∧ Blk wx pb 53 #[.bool false, .bool bag, .bool false, .bool false, .string (S []), .int .u16 ((0 : Nat) : Int), .int .i64 bsz]))
          case first =>
              have hr0 := HM7.out.2.2.1.keep HI.out
              have a0 := rowsCell tfv_length hr0 i _ HTA.out.1 0 (by omega) _ rfl
              have a1 := rowsCell tfv_length hr0 i _ HTA.out.1 1 (by omega) _ rfl
              have a2 := rowsCell tfv_length hr0 i _ HTA.out.1 2 (by omega) _ rfl
              have a3 := rowsCell tfv_length hr0 i _ HTA.out.1 3 (by omega) _ rfl
              have a4 := rowsCell tfv_length hr0 i _ HTA.out.1 4 (by omega) _ rfl
              have a5 := rowsCell tfv_length hr0 i _ HTA.out.1 5 (by omega) _ rfl
              have a6 := rowsCell tfv_length hr0 i _ HTA.out.1 6 (by omega) _ rfl
              have b0 := rowsCell tfv_length hr0 j1 _ HTA.out.2 0 (by omega) _ rfl
              have b1 := rowsCell tfv_length hr0 j1 _ HTA.out.2 1 (by omega) _ rfl
              have b2 := rowsCell tfv_length hr0 j1 _ HTA.out.2 2 (by omega) _ rfl
              have b3 := rowsCell tfv_length hr0 j1 _ HTA.out.2 3 (by omega) _ rfl
              have b4 := rowsCell tfv_length hr0 j1 _ HTA.out.2 4 (by omega) _ rfl
              have b5 := rowsCell tfv_length hr0 j1 _ HTA.out.2 5 (by omega) _ rfl
              have b6 := rowsCell tfv_length hr0 j1 _ HTA.out.2 6 (by omega) _ rfl
              rw [Nat.add_zero] at a0 b0
              have a0_1 : ∀ X : Obj, (wr.alloc X).cell? ⟨b7, o7 + i * 7, none⟩ = some (.bool false) := fun X => (by have h := rowsCell tfv_length (hr0.keep (below_alloc wr X)) i _ HTA.out.1 0 (by omega) _ rfl; rw [Nat.add_zero] at h; exact h)
              have a1_1 : ∀ X : Obj, (wr.alloc X).cell? ⟨b7, o7 + i * 7 + 1, none⟩ = some (.bool aag) := fun X => rowsCell tfv_length (hr0.keep (below_alloc wr X)) i _ HTA.out.1 1 (by omega) _ rfl
              have a2_1 : ∀ X : Obj, (wr.alloc X).cell? ⟨b7, o7 + i * 7 + 2, none⟩ = some (.bool false) := fun X => rowsCell tfv_length (hr0.keep (below_alloc wr X)) i _ HTA.out.1 2 (by omega) _ rfl
              have a3_1 : ∀ X : Obj, (wr.alloc X).cell? ⟨b7, o7 + i * 7 + 3, none⟩ = some (.bool true) := fun X => rowsCell tfv_length (hr0.keep (below_alloc wr X)) i _ HTA.out.1 3 (by omega) _ rfl
              have a4_1 : ∀ X : Obj, (wr.alloc X).cell? ⟨b7, o7 + i * 7 + 4, none⟩ = some (.string (S act)) := fun X => rowsCell tfv_length (hr0.keep (below_alloc wr X)) i _ HTA.out.1 4 (by omega) _ rfl
              have a5_1 : ∀ X : Obj, (wr.alloc X).cell? ⟨b7, o7 + i * 7 + 5, none⟩ = some (.int .u16 (ep : Nat)) := fun X => rowsCell tfv_length (hr0.keep (below_alloc wr X)) i _ HTA.out.1 5 (by omega) _ rfl
              have a6_1 : ∀ X : Obj, (wr.alloc X).cell? ⟨b7, o7 + i * 7 + 6, none⟩ = some (.int .i64 asz) := fun X => rowsCell tfv_length (hr0.keep (below_alloc wr X)) i _ HTA.out.1 6 (by omega) _ rfl
              have b0_1 : ∀ X : Obj, (wr.alloc X).cell? ⟨b7, o7 + j1 * 7, none⟩ = some (.bool false) := fun X => (by have h := rowsCell tfv_length (hr0.keep (below_alloc wr X)) j1 _ HTA.out.2 0 (by omega) _ rfl; rw [Nat.add_zero] at h; exact h)
              have b1_1 : ∀ X : Obj, (wr.alloc X).cell? ⟨b7, o7 + j1 * 7 + 1, none⟩ = some (.bool bag) := fun X => rowsCell tfv_length (hr0.keep (below_alloc wr X)) j1 _ HTA.out.2 1 (by omega) _ rfl
              have b2_1 : ∀ X : Obj, (wr.alloc X).cell? ⟨b7, o7 + j1 * 7 + 2, none⟩ = some (.bool false) := fun X => rowsCell tfv_length (hr0.keep (below_alloc wr X)) j1 _ HTA.out.2 2 (by omega) _ rfl
              have b3_1 : ∀ X : Obj, (wr.alloc X).cell? ⟨b7, o7 + j1 * 7 + 3, none⟩ = some (.bool false) := fun X => rowsCell tfv_length (hr0.keep (below_alloc wr X)) j1 _ HTA.out.2 3 (by omega) _ rfl
              have b4_1 : ∀ X : Obj, (wr.alloc X).cell? ⟨b7, o7 + j1 * 7 + 4, none⟩ = some (.string (S [])) := fun X => rowsCell tfv_length (hr0.keep (below_alloc wr X)) j1 _ HTA.out.2 4 (by omega) _ rfl
              have b5_1 : ∀ X : Obj, (wr.alloc X).cell? ⟨b7, o7 + j1 * 7 + 5, none⟩ = some (.int .u16 ((0 : Nat) : Int)) := fun X => rowsCell tfv_length (hr0.keep (below_alloc wr X)) j1 _ HTA.out.2 5 (by omega) _ rfl
              have b6_1 : ∀ X : Obj, (wr.alloc X).cell? ⟨b7, o7 + j1 * 7 + 6, none⟩ = some (.int .i64 bsz) := fun X => rowsCell tfv_length (hr0.keep (below_alloc wr X)) j1 _ HTA.out.2 6 (by omega) _ rfl
              have a0_2 : ∀ X Y : Obj, ((wr.alloc X).alloc Y).cell? ⟨b7, o7 + i * 7, none⟩ = some (.bool false) := fun X Y => (by have h := rowsCell tfv_length ((hr0.keep (below_alloc wr X)).keep (below_alloc (wr.alloc X) Y)) i _ HTA.out.1 0 (by omega) _ rfl; rw [Nat.add_zero] at h; exact h)
              have a1_2 : ∀ X Y : Obj, ((wr.alloc X).alloc Y).cell? ⟨b7, o7 + i * 7 + 1, none⟩ = some (.bool aag) := fun X Y => rowsCell tfv_length ((hr0.keep (below_alloc wr X)).keep (below_alloc (wr.alloc X) Y)) i _ HTA.out.1 1 (by omega) _ rfl
              have a2_2 : ∀ X Y : Obj, ((wr.alloc X).alloc Y).cell? ⟨b7, o7 + i * 7 + 2, none⟩ = some (.bool false) := fun X Y => rowsCell tfv_length ((hr0.keep (below_alloc wr X)).keep (below_alloc (wr.alloc X) Y)) i _ HTA.out.1 2 (by omega) _ rfl
              have a3_2 : ∀ X Y : Obj, ((wr.alloc X).alloc Y).cell? ⟨b7, o7 + i * 7 + 3, none⟩ = some (.bool true) := fun X Y => rowsCell tfv_length ((hr0.keep (below_alloc wr X)).keep (below_alloc (wr.alloc X) Y)) i _ HTA.out.1 3 (by omega) _ rfl
              have a4_2 : ∀ X Y : Obj, ((wr.alloc X).alloc Y).cell? ⟨b7, o7 + i * 7 + 4, none⟩ = some (.string (S act)) := fun X Y => rowsCell tfv_length ((hr0.keep (below_alloc wr X)).keep (below_alloc (wr.alloc X) Y)) i _ HTA.out.1 4 (by omega) _ rfl
              have a5_2 : ∀ X Y : Obj, ((wr.alloc X).alloc Y).cell? ⟨b7, o7 + i * 7 + 5, none⟩ = some (.int .u16 (ep : Nat)) := fun X Y => rowsCell tfv_length ((hr0.keep (below_alloc wr X)).keep (below_alloc (wr.alloc X) Y)) i _ HTA.out.1 5 (by omega) _ rfl
              have a6_2 : ∀ X Y : Obj, ((wr.alloc X).alloc Y).cell? ⟨b7, o7 + i * 7 + 6, none⟩ = some (.int .i64 asz) := fun X Y => rowsCell tfv_length ((hr0.keep (below_alloc wr X)).keep (below_alloc (wr.alloc X) Y)) i _ HTA.out.1 6 (by omega) _ rfl
              have b0_2 : ∀ X Y : Obj, ((wr.alloc X).alloc Y).cell? ⟨b7, o7 + j1 * 7, none⟩ = some (.bool false) := fun X Y => (by have h := rowsCell tfv_length ((hr0.keep (below_alloc wr X)).keep (below_alloc (wr.alloc X) Y)) j1 _ HTA.out.2 0 (by omega) _ rfl; rw [Nat.add_zero] at h; exact h)
              have b1_2 : ∀ X Y : Obj, ((wr.alloc X).alloc Y).cell? ⟨b7, o7 + j1 * 7 + 1, none⟩ = some (.bool bag) := fun X Y => rowsCell tfv_length ((hr0.keep (below_alloc wr X)).keep (below_alloc (wr.alloc X) Y)) j1 _ HTA.out.2 1 (by omega) _ rfl
              have b2_2 : ∀ X Y : Obj, ((wr.alloc X).alloc Y).cell? ⟨b7, o7 + j1 * 7 + 2, none⟩ = some (.bool false) := fun X Y => rowsCell tfv_length ((hr0.keep (below_alloc wr X)).keep (below_alloc (wr.alloc X) Y)) j1 _ HTA.out.2 2 (by omega) _ rfl
              have b3_2 : ∀ X Y : Obj, ((wr.alloc X).alloc Y).cell? ⟨b7, o7 + j1 * 7 + 3, none⟩ = some (.bool false) := fun X Y => rowsCell tfv_length ((hr0.keep (below_alloc wr X)).keep (below_alloc (wr.alloc X) Y)) j1 _ HTA.out.2 3 (by omega) _ rfl
              have b4_2 : ∀ X Y : Obj, ((wr.alloc X).alloc Y).cell? ⟨b7, o7 + j1 * 7 + 4, none⟩ = some (.string (S [])) := fun X Y => rowsCell tfv_length ((hr0.keep (below_alloc wr X)).keep (below_alloc (wr.alloc X) Y)) j1 _ HTA.out.2 4 (by omega) _ rfl
              have b5_2 : ∀ X Y : Obj, ((wr.alloc X).alloc Y).cell? ⟨b7, o7 + j1 * 7 + 5, none⟩ = some (.int .u16 ((0 : Nat) : Int)) := fun X Y => rowsCell tfv_length ((hr0.keep (below_alloc wr X)).keep (below_alloc (wr.alloc X) Y)) j1 _ HTA.out.2 5 (by omega) _ rfl
              have b6_2 : ∀ X Y : Obj, ((wr.alloc X).alloc Y).cell? ⟨b7, o7 + j1 * 7 + 6, none⟩ = some (.int .i64 bsz) := fun X Y => rowsCell tfv_length ((hr0.keep (below_alloc wr X)).keep (below_alloc (wr.alloc X) Y)) j1 _ HTA.out.2 6 (by omega) _ rfl
              have HFA : Hid (Below wr.heap.size wr (((wr.alloc (.cells #[.bool false, .bool aag, .bool false, .bool true, .string (S act), .int .u16 (ep : Nat), .int .i64 asz] 53)).alloc (.cells #[.bool false, .bool bag, .bool false, .bool false, .string (S []), .int .u16 0, .int .i64 bsz] 53)).drew) ∧ Blk (((wr.alloc (.cells #[.bool false, .bool aag, .bool false, .bool true, .string (S act), .int .u16 (ep : Nat), .int .i64 asz] 53)).alloc (.cells #[.bool false, .bool bag, .bool false, .bool false, .string (S []), .int .u16 0, .int .i64 bsz] 53)).drew) wr.heap.size 53 #[.bool false, .bool aag, .bool false, .bool true, .string (S act), .int .u16 (ep : Nat), .int .i64 asz] ∧ Blk (((wr.alloc (.cells #[.bool false, .bool aag, .bool false, .bool true, .string (S act), .int .u16 (ep : Nat), .int .i64 asz] 53)).alloc (.cells #[.bool false, .bool bag, .bool false, .bool false, .string (S []), .int .u16 0, .int .i64 bsz] 53)).drew) (wr.heap.size + 1) 53 #[.bool false, .bool bag, .bool false, .bool false, .string (S []), .int .u16 ((0 : Nat) : Int), .int .i64 bsz]) := Lib.hid ⟨(below_two (below_alloc _ _) (below_alloc _ _)).drew, ((Blk.new wr 53 #[.bool false, .bool aag, .bool false, .bool true, .string (S act), .int .u16 (ep : Nat), .int .i64 asz]).alloc _).drew, by
                have h := Blk.new (wr.alloc (.cells #[.bool false, .bool aag, .bool false, .bool true, .string (S act), .int .u16 (ep : Nat), .int .i64 asz] 53)) 53 #[.bool false, .bool bag, .bool false, .bool false, .string (S []), .int .u16 ((0 : Nat) : Int), .int .i64 bsz]
                rw [World.size_alloc] at h
                exact h.drew⟩
              have HFB : Hid (Below wr.heap.size wr (((wr.alloc (.cells #[.bool false, .bool bag, .bool false, .bool false, .string (S []), .int .u16 0, .int .i64 bsz] 53)).alloc (.cells #[.bool false, .bool aag, .bool false, .bool true, .string (S act), .int .u16 (ep : Nat), .int .i64 asz] 53)).drew) ∧ Blk (((wr.alloc (.cells #[.bool false, .bool bag, .bool false, .bool false, .string (S []), .int .u16 0, .int .i64 bsz] 53)).alloc (.cells #[.bool false, .bool aag, .bool false, .bool true, .string (S act), .int .u16 (ep : Nat), .int .i64 asz] 53)).drew) (wr.heap.size + 1) 53 #[.bool false, .bool aag, .bool false, .bool true, .string (S act), .int .u16 (ep : Nat), .int .i64 asz] ∧ Blk (((wr.alloc (.cells #[.bool false, .bool bag, .bool false, .bool false, .string (S []), .int .u16 0, .int .i64 bsz] 53)).alloc (.cells #[.bool false, .bool aag, .bool false, .bool true, .string (S act), .int .u16 (ep : Nat), .int .i64 asz] 53)).drew) wr.heap.size 53 #[.bool false, .bool bag, .bool false, .bool false, .string (S []), .int .u16 ((0 : Nat) : Int), .int .i64 bsz]) := Lib.hid ⟨(below_two (below_alloc _ _) (below_alloc _ _)).drew, by
                have h := Blk.new (wr.alloc (.cells #[.bool false, .bool bag, .bool false, .bool false, .string (S []), .int .u16 0, .int .i64 bsz] 53)) 53 #[.bool false, .bool aag, .bool false, .bool true, .string (S act), .int .u16 (ep : Nat), .int .i64 asz]
                rw [World.size_alloc] at h
                exact h.drew, ((Blk.new wr 53 #[.bool false, .bool bag, .bool false, .bool false, .string (S []), .int .u16 ((0 : Nat) : Int), .int .i64 bsz]).alloc _).drew⟩
              clear hr0
              go_region_law (fail)
              all_goals
              try simp only [Act.put]
              try dsimp only [List.getElem_toArray, List.getElem_cons_succ, List.getElem_cons_zero]
              try simp only [List.setIfInBounds_toArray, List.set_cons_zero, List.set_cons_succ]
              go_wp2_with fail
              go_meet
              case rel => first | exact ⟨_, _, rfl, rfl, HFA⟩ | exact ⟨_, _, rfl, rfl, HFB⟩
          case rest =>
            obtain ⟨pa, pb, rfl, rfl, HAB⟩ := hcut
            generalize wc = w9 at *
            clear e1 e2 i1 i2 w1' w2' w3' w4'
            have q0 : w9.cell? ⟨p, 0, none⟩ = some (.int .u8 (kd : Nat)) := ((HM7.out.2.1.keep (below_two HI.out HAB.out.1)).cell 0).trans rfl
            have q1 : w9.cell? ⟨p, 1, none⟩ = some (.string (S body)) := ((HM7.out.2.1.keep (below_two HI.out HAB.out.1)).cell 1).trans rfl
            have q2 : w9.cell? ⟨p, 2, none⟩ = some (.slice (some ⟨b1, o1, none⟩) i c) := ((HM7.out.2.1.keep (below_two HI.out HAB.out.1)).cell 2).trans rfl
            have a3 : w9.cell? ⟨pa, 3, none⟩ = some (.bool true) := (HAB.out.2.1.cell 3).trans rfl
            have a4 : w9.cell? ⟨pa, 4, none⟩ = some (.string (S act)) := (HAB.out.2.1.cell 4).trans rfl
            have a5 : w9.cell? ⟨pa, 5, none⟩ = some (.int .u16 (ep : Nat)) := (HAB.out.2.1.cell 5).trans rfl
            have b3 : w9.cell? ⟨pb, 3, none⟩ = some (.bool false) := (HAB.out.2.2.cell 3).trans rfl
            have b4 : w9.cell? ⟨pb, 4, none⟩ = some (.string { data := #[] }) := (HAB.out.2.2.cell 4).trans rfl
            have HWH := Lib.hid (fun W => whole_any kd body (some ⟨b1, o1, none⟩) i c L HN.out.2.2.2 HC.out.1 HN.out.2.1 W)
            rw [← HCT.out] at HWH
            go_upto_region 22 with (fail)
            go_region_law (first
              | (go_simp; go_at_call 12; (with_reducible refine (HWH.out _).mono ?_); rintro e w10 ⟨rfl, hb10⟩; have a5' := keep_of_below hb10 _ _ (keep_of_below (below_drew w9) _ _ a5); have b3' := keep_of_below hb10 _ _ (keep_of_below (below_drew w9) _ _ b3); have b4' := keep_of_below hb10 _ _ (keep_of_below (below_drew w9) _ _ b4); have a4' := keep_of_below hb10 _ _ (keep_of_below (below_drew w9) _ _ a4); have HB10 := Lib.hid (below_two HM7.out.1 (below_two HI.out (below_two HAB.out.1 (below_two (below_drew w9) hb10))))))
            all_goals
            clear hb10
            try simp only [Act.put]
            try dsimp only [List.getElem_toArray, List.getElem_cons_succ, List.getElem_cons_zero]
            try simp only [List.setIfInBounds_toArray, List.set_cons_zero, List.set_cons_succ]
            go_wp2_with fail
            go_ret
            exact ⟨rfl, HB10.out⟩
theorem whole_row (cs : Array Value) (hk : cs.size = 3) (x0 : Int) (e0 : cs[0]? = some (.int .u8 x0)) (w0 : (Lit.int .u8 x0).wf = true) (l : List UInt8) (e1 : cs[1]? = some (.string (S l))) (A : Option Addr) (n c : Nat) (zs : List (Int × Int)) (e2 : cs[2]? = some (.slice A n c)) (hz : zs.length = n) (hn : n ≤ c) (w : World) (hr : Rd w A (rowsOf ipv zs)) (x : Int) (wx : (Lit.int .u16 x).wf = true)
    (v0 : w.cell? ⟨4, 0, none⟩ = some (.int .u8 254) ∧ w.cell? ⟨4, 1, none⟩ = some (.int .u8 255)) (v2 : w.cell? ⟨5, 0, none⟩ = some (.int .u8 254) ∧ w.cell? ⟨5, 1, none⟩ = some (.int .u8 253)) {p2 : Prop} (ad2 : Addr) (hg2 : p2) {p3 : Prop} (ad3 : Addr) (hg3 : p3) {p4 : Prop} (ad4 : Addr) (hg4 : p4) {p5 : Prop} (ad5 : Addr) (hg5 : p5)
    (ad6 : Addr) (hg6 : w.cell? ⟨0, 0, none⟩ = some (.iface 131 (.pointer (some ad6)))) :
    Calls Tryd.prog 5 #[.agg cs, .int .u16 x] w fun e w' => e = .returned (.bool true) ∧ Below w.heap.size w w' := by
  obtain ⟨kd, rfl, hkd⟩ := nat_u8 w0
  obtain ⟨ep, rfl, hep⟩ := nat_u16 wx
  rw [part_cells hk e0 e1 e2]
  exact wholeLaw kd ep l A n c zs (by omega) (by omega) hz _ w hr v0 v2 hg6
end Go.Proofs.YtadblfnggmaadaaDoor
