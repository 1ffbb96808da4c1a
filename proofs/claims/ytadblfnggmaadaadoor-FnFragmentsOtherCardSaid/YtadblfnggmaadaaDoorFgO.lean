/- The law of a record that is no handshake message. -/
import Derived.Test.YtadblfnggmaadaaDoorFgX
import Derived.Test.YtadblfnggmaadaaDoorFgR
namespace Go.Proofs.YtadblfnggmaadaaDoor
open Go.RowKit Go.Cv
set_option maxRecDepth 100000
set_option linter.unusedVariables false
set_option maxHeartbeats 4000000 in
theorem otherLaw (ct kd ep : Nat) (content body : List UInt8) (A : Option Addr) (n c : Nat) (ps : List (Int × Int)) (hct : ct < 256) (hkd : kd < 256) (hep : ep < 65536) (hn : ps.length = n) (ev : Value) (w : World) (hr : Rd w A (rowsOf ipv ps))
    (v0 : w.cell? ⟨4, 0, none⟩ = some (.int .u8 254) ∧ w.cell? ⟨4, 1, none⟩ = some (.int .u8 255)) (v2 : w.cell? ⟨5, 0, none⟩ = some (.int .u8 254) ∧ w.cell? ⟨5, 1, none⟩ = some (.int .u8 253))
    (hev : w.cell? ⟨0, 0, none⟩ = some ev) :
    Calls Tryd.prog 4 #[.int .u8 (ct : Nat), .string (S content), .agg #[.int .u8 (kd : Nat), .string (S body), .slice A n c], .int .u16 (ep : Nat)] w fun e w' => e = .returned (.bool true) ∧ Below w.heap.size w w' := by
  obtain ⟨L, hL⟩ : ∃ L, body.length = L := ⟨_, rfl⟩
  obtain ⟨m, hm⟩ : ∃ m, content.length = m := ⟨_, rfl⟩
  have z0 : (S content).size = m := by rw [S_size, hm]
  have HR := Lib.hid (And.intro hr (And.intro v0 (And.intro v2 hev)))
  have HN := Lib.hid (And.intro hn (And.intro hkd (And.intro hep (And.intro hL (And.intro hm hct)))))
  have HFT := Lib.hid (fun W => fits_any (kd : Nat) body A n c L hL W)
  have HCV := Lib.hid (fun W (hW : Below w.heap.size w W) => covered_any (kd : Nat) body A n c L ps hL hn W (hr.keep hW))
  clear hr v0 v2 hev hkd hep hn hL hm hct
  go_enter Tryd.func4, Tryd.ntmps4
  go_upto_region 1 with (fail)
  have hb1 := below_alloc w (.cells #[.int .u8 (kd : Nat), .string (S body), .slice A n c] 41)
  have hk1 := Blk.new w 41 #[.int .u8 (kd : Nat), .string (S body), .slice A n c]
  obtain ⟨p, hp⟩ : ∃ p, w.heap.size = p := ⟨_, rfl⟩
  simp only [hp] at hk1 ⊢
  have HB1 := Lib.hid (And.intro hb1 hk1)
  clear hb1 hk1 hp
  generalize w.alloc (.cells #[.int .u8 (kd : Nat), .string (S body), .slice A n c] 41) = w1 at *
  have q0 : w1.cell? ⟨p, 0, none⟩ = some (.int .u8 (kd : Nat)) := (HB1.out.2.cell 0).trans rfl
  have q1 : w1.cell? ⟨p, 1, none⟩ = some (.string (S body)) := (HB1.out.2.cell 1).trans rfl
  have q2 : w1.cell? ⟨p, 2, none⟩ = some (.slice A n c) := (HB1.out.2.cell 2).trans rfl
  by_cases h1 : (2147483647 : Int) < (m : Int)
  · have t1 : decide ((2147483647 : Int) < (m : Int)) = true := by simpa using h1
    clear h1
    go_wp2_with fail
    go_ret
    exact ⟨rfl, HB1.out.1⟩
  have t1 : decide ((2147483647 : Int) < (m : Int)) = false := by simpa using h1
  clear h1
  go_wp2_with fail
  refine (HFT.out w1).mono ?_
  rintro e w2 ⟨d, rfl, HD, hb2⟩
  have HB2 : Hid (Below w.heap.size w w2 ∧ Blk w2 p 41 #[.int .u8 (kd : Nat), .string (S body), .slice A n c]) := Lib.hid ⟨below_two HB1.out.1 hb2, HB1.out.2.keep hb2⟩
  clear hb2 q0 q1 q2 t1
  cases d
  case false =>
    go_wp2_with fail
    go_ret
    exact ⟨rfl, HB2.out.1⟩
  case true =>
  have q0 : w2.cell? ⟨p, 0, none⟩ = some (.int .u8 (kd : Nat)) := (HB2.out.2.cell 0).trans rfl
  have q1 : w2.cell? ⟨p, 1, none⟩ = some (.string (S body)) := (HB2.out.2.cell 1).trans rfl
  have q2 : w2.cell? ⟨p, 2, none⟩ = some (.slice A n c) := (HB2.out.2.cell 2).trans rfl
  by_cases h22 : ct = 22
  · subst h22
    go_wp2_with fail
    go_ret
    exact ⟨rfl, HB2.out.1⟩
  have d22 : ((ct : Int) == 22) = false := by simp; omega
  by_cases h25 : ct = 25
  · subst h25
    go_wp2_with fail
    go_ret
    exact ⟨rfl, HB2.out.1⟩
  have d25 : ((ct : Int) == 25) = false := by simp; omega
  by_cases h3 : (m : Int) < 1
  · have t3 : decide ((m : Int) < 1) = true := by simpa using h3
    clear h3
    go_wp2_with fail
    go_ret
    exact ⟨rfl, HB2.out.1⟩
  have t3 : decide ((m : Int) < 1) = false := by simpa using h3
  clear h3
  by_cases h4 : (60000 : Int) < (m : Int)
  · have t4 : decide ((60000 : Int) < (m : Int)) = true := by simpa using h4
    clear h4
    go_wp2_with fail
    go_ret
    exact ⟨rfl, HB2.out.1⟩
  have t4 : decide ((60000 : Int) < (m : Int)) = false := by simpa using h4
  have HCT : Hid (ct ≠ 22 ∧ ct ≠ 25 ∧ m ≤ 60000) := Lib.hid ⟨h22, h25, by omega⟩
  clear h4
  go_wp2_with fail
  refine (HCV.out w2 HB2.out.1).mono ?_
  rintro e w3 ⟨d, rfl, HD3, hb3⟩
  have HB3 : Hid (Below w.heap.size w w3 ∧ Blk w3 p 41 #[.int .u8 (kd : Nat), .string (S body), .slice A n c]) := Lib.hid ⟨below_two HB2.out.1 hb3, HB2.out.2.keep hb3⟩
  clear hb3 q0 q1 q2 HFT HCV t3 t4 d22 d25 h22 h25
  cases d
  case false =>
    go_wp2_with fail
    go_ret
    exact ⟨rfl, HB3.out.1⟩
  case true =>
  have HL3 : Hid (L ≤ 3000) := Lib.hid (HD3.out rfl).1
  clear HD3 HD
  have HWH := Lib.hid (fun W => whole_any kd body A n c L HN.out.2.2.2.1 HL3.out HN.out.2.1 W)
  obtain ⟨wt, hwt⟩ : ∃ wt, hsW kd L ++ body = wt := ⟨_, rfl⟩
  have hwl : wt.length = 12 + L := by rw [← hwt, List.length_append, HN.out.2.2.2.1]; rfl
  rw [hwt] at HWH
  obtain ⟨r0, hr0⟩ : ∃ r0, headOf ct 254 253 ep (1 &&& 281474976710655) content.length [] ++ content = r0 := ⟨_, rfl⟩
  obtain ⟨r2, hr2⟩ : ∃ r2, headOf 22 254 253 ep (2 &&& 281474976710655) (12 + L) [] ++ wt = r2 := ⟨_, rfl⟩
  have HF0 : Hid (∀ W, Calls Tryd.prog 11 #[.int .u8 (ct : Nat), .int .u16 (ep : Nat), .int .u64 1, .string { data := #[] }, .string (S content)] W fun e w' => e = .returned (.string (S r0)) ∧ Below W.heap.size W w') := by
    refine Lib.hid fun W => ?_
    have h := framed_any ct ep 1 content (by have := HCT.out; have := HN.out.2.2.2.2.1; omega) (by have := HN.out; omega) (by have := HN.out; omega) (by omega) W
    rw [hr0] at h
    exact h
  have HF2 : Hid (∀ W, Calls Tryd.prog 11 #[.int .u8 22, .int .u16 (ep : Nat), .int .u64 2, .string { data := #[] }, .string (S wt)] W fun e w' => e = .returned (.string (S r2)) ∧ Below W.heap.size W w') := by
    refine Lib.hid fun W => ?_
    have h := framed_any 22 ep 2 wt (by have := HL3.out; omega) (by omega) (by have := HN.out; omega) (by omega) W
    rw [hwl, hr2] at h
    exact h
  have HSO := Lib.hid (stepsO body content kd ep ct HN.out.2.2.2.2.2 HCT.out.1 HCT.out.2.1 HN.out.2.2.1 (by have := HCT.out; have := HN.out; omega) ⟨true, r0⟩ ⟨true, r2⟩ (by rw [hr0]) (by rw [HN.out.2.2.2.1, hwt, hr2]))
  have HWT := Lib.hid hwt
  clear hwt hwl hr0 hr2
  have q0 : w3.cell? ⟨p, 0, none⟩ = some (.int .u8 (kd : Nat)) := (HB3.out.2.cell 0).trans rfl
  have q1 : w3.cell? ⟨p, 1, none⟩ = some (.string (S body)) := (HB3.out.2.cell 1).trans rfl
  have q2 : w3.cell? ⟨p, 2, none⟩ = some (.slice A n c) := (HB3.out.2.cell 2).trans rfl
  have HQ : Hid (∀ W, Below w3.heap.size w3 W → W.cell? ⟨p, 0, none⟩ = some (.int .u8 (kd : Nat)) ∧ W.cell? ⟨p, 1, none⟩ = some (.string (S body)) ∧ W.cell? ⟨p, 2, none⟩ = some (.slice A n c)) := Lib.hid fun W hW => ⟨keep_of_below hW _ _ q0, keep_of_below hW _ _ q1, keep_of_below hW _ _ q2⟩
  go_upto_region 5 with (fail)
  go_cut [9] (fun s9 wx => ∃ (b c9 : Nat), s9 = .slice (some ⟨b, 0, none⟩) 4 c9 ∧ Hid (Below w3.heap.size w3 wx ∧ Rd wx (some ⟨b, 0, none⟩) (rowsOf sfv [⟨true, r0⟩, popS, ⟨true, r2⟩, popS])))
  case first =>
    go_region_law (first
      | (go_simp; go_at_call 11; (with_reducible refine (HF0.out _).mono ?_); rintro e v1 ⟨rfl, hb1⟩; have HV1 := Lib.hid (below_two (below_drew w3) hb1); obtain ⟨y0, y1, y2⟩ := HQ.out v1 HV1.out)
      | (go_simp; go_at_call 12; (with_reducible refine (HWH.out _).mono ?_); rintro e v2 ⟨rfl, hb2⟩; have HV2 := Lib.hid (below_two HV1.out hb2))
      | (go_simp; go_at_call 11; (with_reducible refine (HF2.out _).mono ?_); rintro e v3 ⟨rfl, hb3⟩; have HV3 := Lib.hid (below_two HV2.out hb3)))
    all_goals
    try simp only [Act.put]
    try dsimp only [List.getElem_toArray, List.getElem_cons_succ, List.getElem_cons_zero]
    try simp only [List.setIfInBounds_toArray, List.set_cons_zero, List.set_cons_succ]
    have HRN := Lib.hid (rd_new v3 47 #[.bool true, .string (S r0), .bool false, .string { data := #[] }, .bool true, .string (S r2), .bool false, .string { data := #[] }])
    go_wp2_with fail
    go_meet
    case rel => exact ⟨_, _, rfl, Lib.hid ⟨below_two HV3.out (below_alloc _ _), HRN.out⟩⟩
  case rest =>
    obtain ⟨b, c9, rfl, HZ⟩ := hcut
    generalize wc = w4 at *
    clear q0 q1 q2
    have HB4 := Lib.hid (below_two HB3.out.1 HZ.out.1)
    have HFR := Lib.hid (frags_any body kd ep [⟨true, r0⟩, popS, ⟨true, r2⟩, popS] 4 c9 (some ⟨b, 0, none⟩) (sigO body.length) (outO body kd ep) rfl (by omega) (by rw [HN.out.2.2.2.1]; exact HL3.out) HN.out.2.1 HN.out.2.2.1 HSO.out.1 HSO.out.2 ev w4 HZ.out.2
      ⟨keep_of_below HB4.out _ _ HR.out.2.1.1, keep_of_below HB4.out _ _ HR.out.2.1.2⟩ ⟨keep_of_below HB4.out _ _ HR.out.2.2.1.1, keep_of_below HB4.out _ _ HR.out.2.2.1.2⟩ (keep_of_below HB4.out _ _ HR.out.2.2.2))
    go_wp2_with fail
    refine HFR.out.mono ?_
    rintro e w7 ⟨O7, co7, T, rfl, hco, hT, hrd, hma, hb7⟩
    obtain ⟨t0, t1, t2, t3, rfl⟩ : ∃ t0 t1 t2 t3, T = [t0, t1, t2, t3] := by
      match T, hT with
      | [t0, t1, t2, t3], _ => exact ⟨t0, t1, t2, t3, rfl⟩
    have hne : rowsOf tfv [t0, t1, t2, t3] ≠ [] := by simp [rowsOf, tfv]
    obtain ⟨b7, o7, rfl, _⟩ := hrd.resolve_left hne
    have k0 := hma 0 t0 rfl
    have k1 := hma 1 t1 rfl
    have k2 := hma 2 t2 rfl
    have k3 := hma 3 t3 rfl
    have HM7 := Lib.hid (And.intro (below_two HB4.out hb7) (And.intro hrd (HB3.out.2.keep (below_two HZ.out.1 hb7))))
    clear hne hrd hma hb7 HFR hT hco
    obtain ⟨s0, g0, f0, h0, ct0, ep0, z0'⟩ := t0
    obtain ⟨s1, g1, f1, h1, ct1, ep1, z1'⟩ := t1
    obtain ⟨s2, g2, f2, h2, ct2, ep2, z2'⟩ := t2
    obtain ⟨s3, g3, f3, h3, ct3, ep3, z3'⟩ := t3
    obtain ⟨k01, k02, k03, k04, k05⟩ := k0
    obtain ⟨k11, k12, k13, k14, k15⟩ := k1
    obtain ⟨k21, k22, k23, k24, k25⟩ := k2
    obtain ⟨k31, k32, k33, k34, k35⟩ := k3
    have o0 : outO body kd ep 0 = ⟨false, false, [], 0⟩ := rfl
    have o1 : outO body kd ep 1 = ⟨false, false, [], 0⟩ := rfl
    have o2 : outO body kd ep 2 = ⟨true, false, [], 0⟩ := rfl
    have o3 : outO body kd ep 3 = ⟨false, true, hsW kd body.length ++ body, ep⟩ := rfl
    rw [o0] at k01
    rw [o1] at k13
    rw [o2] at k21
    rw [o3] at k33 k34
    simp only at k01 k02 k13 k21 k33 k34
    subst k01 k02 k13 k21 k33
    have hct3 : ct3 = wt := by rw [k34, HN.out.2.2.2.1, HWT.out]
    subst hct3
    have a0 : ∀ W, Below w7.heap.size w7 W → W.cell? ⟨b7, o7, none⟩ = some (.bool false) ∧ W.cell? ⟨b7, o7 + 2, none⟩ = some (.bool false) ∧ W.cell? ⟨b7, o7 + 7 + 3, none⟩ = some (.bool false) ∧ W.cell? ⟨b7, o7 + 14, none⟩ = some (.bool true) ∧ W.cell? ⟨b7, o7 + 21 + 3, none⟩ = some (.bool true) ∧ W.cell? ⟨b7, o7 + 21 + 4, none⟩ = some (.string (S ct3)) := fun W hW => by
      have hrd := HM7.out.2.1.keep hW
      refine ⟨?_, ?_, ?_, ?_, ?_, ?_⟩
      · exact rowsCell tfv_length hrd 0 _ rfl 0 (by omega) _ rfl
      · exact rowsCell tfv_length hrd 0 _ rfl 2 (by omega) _ rfl
      · exact rowsCell tfv_length hrd 1 _ rfl 3 (by omega) _ rfl
      · exact rowsCell tfv_length hrd 2 _ rfl 0 (by omega) _ rfl
      · exact rowsCell tfv_length hrd 3 _ rfl 3 (by omega) _ rfl
      · exact rowsCell tfv_length hrd 3 _ rfl 4 (by omega) _ rfl
    have HA := Lib.hid a0
    obtain ⟨c0, c1, c2, c3, c4, c5⟩ := a0 w7 (Below.refl _ _)
    have q0 : w7.cell? ⟨p, 0, none⟩ = some (.int .u8 (kd : Nat)) := (HM7.out.2.2.cell 0).trans rfl
    have q1 : w7.cell? ⟨p, 1, none⟩ = some (.string (S body)) := (HM7.out.2.2.cell 1).trans rfl
    have q2 : w7.cell? ⟨p, 2, none⟩ = some (.slice A n c) := (HM7.out.2.2.cell 2).trans rfl
    clear a0 k03 k04 k05 k11 k12 k14 k15 k22 k23 k24 k25 k31 k32 k34 k35 o0 o1 o2 o3
    go_upto_region 7 with (fail)
    go_region_law (first
      | (go_simp; go_at_call 12; (with_reducible refine (HWH.out _).mono ?_); rintro e v9 ⟨rfl, hb9⟩; obtain ⟨y0, y1, y2, y3, y4, y5⟩ := HA.out v9 (below_two (below_drew w7) hb9); have HV9 := Lib.hid (below_two (below_drew w7) hb9)))
    all_goals
    clear hb9
    try simp only [Act.put]
    try dsimp only [List.getElem_toArray, List.getElem_cons_succ, List.getElem_cons_zero]
    try simp only [List.setIfInBounds_toArray, List.set_cons_zero, List.set_cons_succ]
    go_wp2_with fail
    go_ret
    exact ⟨rfl, below_two HM7.out.1 HV9.out⟩
theorem other_row (x : Int) (wx : (Lit.int .u8 x).wf = true) (l : List UInt8) (cs : Array Value) (hk : cs.size = 3) (x0 : Int) (e0 : cs[0]? = some (.int .u8 x0)) (w0 : (Lit.int .u8 x0).wf = true) (l1 : List UInt8) (e1 : cs[1]? = some (.string (S l1))) (A : Option Addr) (n c : Nat) (zs : List (Int × Int)) (e2 : cs[2]? = some (.slice A n c)) (hz : zs.length = n) (hn : n ≤ c) (w : World) (hr : Rd w A (rowsOf ipv zs)) (y : Int) (wy : (Lit.int .u16 y).wf = true)
    (v0 : w.cell? ⟨4, 0, none⟩ = some (.int .u8 254) ∧ w.cell? ⟨4, 1, none⟩ = some (.int .u8 255)) (v2 : w.cell? ⟨5, 0, none⟩ = some (.int .u8 254) ∧ w.cell? ⟨5, 1, none⟩ = some (.int .u8 253)) {p2 : Prop} (ad2 : Addr) (hg2 : p2) {p3 : Prop} (ad3 : Addr) (hg3 : p3) {p4 : Prop} (ad4 : Addr) (hg4 : p4) {p5 : Prop} (ad5 : Addr) (hg5 : p5)
    (ad6 : Addr) (hg6 : w.cell? ⟨0, 0, none⟩ = some (.iface 131 (.pointer (some ad6)))) :
    Calls Tryd.prog 4 #[.int .u8 x, .string (S l), .agg cs, .int .u16 y] w fun e w' => e = .returned (.bool true) ∧ Below w.heap.size w w' := by
  obtain ⟨ct, rfl, hct⟩ := nat_u8 wx
  obtain ⟨kd, rfl, hkd⟩ := nat_u8 w0
  obtain ⟨ep, rfl, hep⟩ := nat_u16 wy
  rw [part_cells hk e0 e1 e2]
  exact otherLaw ct kd ep l l1 A n c zs (by omega) (by omega) (by omega) hz _ w hr v0 v2 hg6
end Go.Proofs.YtadblfnggmaadaaDoor
