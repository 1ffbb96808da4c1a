/- Walks: the law of a record's header. -/
import Derived.Test.YtmappdbodnlepaaDoorHdrR
namespace Go.Proofs.YtmappdbodnlepaaDoor
open Go.RowKit Go.Cv
set_option maxRecDepth 100000
set_option linter.unusedVariables false
theorem hdText_no (A : Option Addr) (n c : Nat) (ty : TypeId) (p : Value) (w : World) :
    Calls Tryd.prog 26 #[.slice A n c, .iface ty p] w fun e w' => e = .returned (.tuple #[.string (S []), .bool false]) ∧ w = w' := by
  go_enter Tryd.func26, Tryd.ntmps26
  go_wp2_with fail
  go_ret2
  exact ⟨rfl, rfl⟩
theorem marshalHd_no (b : Nat) (ct maj mn : UInt8) (ep sq cl : Nat) (ra n c : Nat) (hsq : decide ((281474976710655 : Int) < (sq : Int)) = true) (w : World) (hk : Blk w b 66 (hdRow ct maj mn ep sq cl (some ⟨ra, 0, none⟩) n c)) (ad : Addr) (hg : w.cell? ⟨0, 0, none⟩ = some (.iface 155 (.pointer (some ad)))) :
    Calls Tryd.prog 27 #[.pointer (some ⟨b, 0, none⟩)] w fun e w' => ∃ ad, e = .returned (.tuple #[.slice none 0 0, .iface 155 (.pointer (some ad))]) ∧ Below w.heap.size w w' := by
  have hbs := hk.lt
  obtain ⟨_, _, _, _, _, k5, _⟩ := hdc hk
  have hgs := block_lt hg
  clear hk
  go_enter Tryd.func27, Tryd.ntmps27
  go_wp2_with fail
  go_quiet (fail)
  go_wp2_with fail
  go_ret2
  exact ⟨ad, rfl, below_drewN (Below.refl _ _) nq⟩
theorem headerWrite_no (ct : UInt8) (cid : List UInt8) (ep sq cl n : Nat) (hsq : decide ((281474976710655 : Int) < (sq : Int)) = true) (hn : cid.length = n) (hn3 : (n : Int) ≤ 2147483647) (w : World) (ad : Addr) (hg : w.cell? ⟨0, 0, none⟩ = some (.iface 155 (.pointer (some ad)))) :
    Calls Tryd.prog 9 #[.agg (recN ct.toNat ep sq cl cid)] w fun e w' => e = .returned (.tuple #[.string (S []), .bool false]) ∧ Below w.heap.size w w' := by
  rw [recN_eq]
  have HH := Lib.hid (fun w => header_any ct 254 253 ep sq cl cid (by simp only [maxLen]; omega) w)
  have HMM := Lib.hid (fun b ra n c w hk hg => marshalHd_no b ct 254 253 ep sq cl ra n c hsq w hk ad hg)
  have HG := Lib.hid hg
  obtain ⟨cs, hcs⟩ : ∃ cs, recRow ct 254 253 ep sq cl cid = cs := ⟨_, rfl⟩
  rw [hcs] at HH ⊢
  have hi : (Tryd.prog.info? 25).map (·.size) = some cs.size := by rw [← hcs]; exact recInfo
  clear hsq hn hn3 hcs hg
  go_enter Tryd.func9, Tryd.ntmps9
  have hg := heap_alloc_new w (.cells cs 25)
  go_wp2_with (with_reducible refine Held.load 25 ?_)
  refine held_load_row (cs := cs) hg Tryd.underlying25 hi rfl ?_
  clear hg hi
  go_wp2_with fail
  refine (HH.out _).mono ?_
  rintro e w1 ⟨ra, c, rfl, hr, hb1⟩
  have HB1 := Lib.hid (below_two (below_alloc w _) hb1)
  clear hr hb1 HH
  go_wp2_with (with_reducible refine Held.store 66 ?_)
  refine held_store_new (cells := hdRow ct 254 253 ep sq cl (some ⟨ra, 0, none⟩) cid.length c) hdInfo rfl rfl rfl (by simp [hdRow, Value.oneCell']) fun w2 hk2 hb2 hsz2 => ?_
  clear hsz2
  have HB2 := Lib.hid (below_two HB1.out hb2)
  have HMC := Lib.hid (HMM.out _ ra _ c w2 hk2 (keep_of_below HB2.out _ _ HG.out))
  clear hk2 hb2 HMM HB1
  go_wp2_with fail
  refine HMC.out.mono ?_
  rintro e w3 ⟨ad', rfl, hb3⟩
  have HT := Lib.hid (hdText_no none 0 0 155 (.pointer (some ad')) w3)
  have HB3 := Lib.hid (below_two HB2.out hb3)
  clear hb3 HMC HB2
  go_wp2_with fail
  refine HT.out.mono ?_
  rintro e w4 ⟨rfl, rfl⟩
  go_wp2_with fail
  go_ret2
  exact ⟨rfl, HB3.out⟩
def rawN (ct mj mn ep sq cl : Int) (cid : List UInt8) : Array Value := #[.int .u8 ct, .int .u8 mj, .int .u8 mn, .int .u16 ep, .int .u64 sq, .int .u16 cl, .string (S cid)]
theorem fitsH_yes (ct mj mn ep sq cl : Int) (cid : List UInt8) (w : World) (h : decide ((2147483647 : Int) < cid.length) = false) :
    Calls Tryd.prog 8 #[.agg (rawN ct mj mn ep sq cl cid)] w fun e w' => e = .returned (.bool true) ∧ Below w.heap.size w w' := by
  have h3 : (S cid).size = cid.length := S_size cid
  unfold rawN
  go_enter Tryd.func8, Tryd.ntmps8
  go_wp2_with fail
  go_ret
  exact ⟨rfl, below_alloc _ _⟩
theorem fitsH_no (ct mj mn ep sq cl : Int) (cid : List UInt8) (w : World) (h : decide ((2147483647 : Int) < cid.length) = true) :
    Calls Tryd.prog 8 #[.agg (rawN ct mj mn ep sq cl cid)] w fun e w' => e = .returned (.bool false) ∧ Below w.heap.size w w' := by
  have h3 : (S cid).size = cid.length := S_size cid
  unfold rawN
  go_enter Tryd.func8, Tryd.ntmps8
  go_wp2_with fail
  go_ret
  exact ⟨rfl, below_alloc _ _⟩
theorem hdl_no (ct mj mn ep sq cl : Int) (cid r : List UInt8) (h : decide ((2147483647 : Int) < cid.length) = true) (w : World) :
    Calls Tryd.prog 3 #[.agg (rawN ct mj mn ep sq cl cid), .string (S r)] w fun e w' => e = .returned (.bool true) ∧ Below w.heap.size w w' := by
  have HF := Lib.hid (fun w => fitsH_no ct mj mn ep sq cl cid w h)
  clear h
  go_enter Tryd.func3, Tryd.ntmps3
  have hg := heap_alloc_new w (.cells (rawN ct mj mn ep sq cl cid) 25)
  go_wp2_with (with_reducible refine Held.load 25 ?_)
  refine held_load_row (cs := rawN ct mj mn ep sq cl cid) hg Tryd.underlying25 recInfo rfl ?_
  clear hg
  go_wp2_with fail
  refine (HF.out _).mono ?_
  rintro e w1 ⟨rfl, hb1⟩
  have hb2 := below_two (below_alloc w _) hb1
  go_wp2_with fail
  go_ret
  exact ⟨rfl, hb2⟩
theorem hdl_big (ct mj mn ep sq cl : Int) (cid r : List UInt8) (n : Nat) (hn : r.length = n) (h : decide ((2147483647 : Int) < cid.length) = false) (h2 : decide ((2147483647 : Int) < n) = true) (w : World) :
    Calls Tryd.prog 3 #[.agg (rawN ct mj mn ep sq cl cid), .string (S r)] w fun e w' => e = .returned (.bool true) ∧ Below w.heap.size w w' := by
  have HF := Lib.hid (fun w => fitsH_yes ct mj mn ep sq cl cid w h)
  have h3 : (S r).size = n := by rw [S_size, hn]
  clear h
  go_enter Tryd.func3, Tryd.ntmps3
  have hg := heap_alloc_new w (.cells (rawN ct mj mn ep sq cl cid) 25)
  go_wp2_with (with_reducible refine Held.load 25 ?_)
  refine held_load_row (cs := rawN ct mj mn ep sq cl cid) hg Tryd.underlying25 recInfo rfl ?_
  clear hg
  go_wp2_with fail
  refine (HF.out _).mono ?_
  rintro e w1 ⟨rfl, hb1⟩
  have hb2 := below_two (below_alloc w _) hb1
  go_wp2_with fail
  go_ret
  exact ⟨rfl, hb2⟩
set_option maxHeartbeats 1000000 in
theorem hdl_any (ct : UInt8) (mj mn : Int) (ep sq cl : Nat) (cid r : List UInt8) (n : Nat) (hn : r.length = n) (h : decide ((2147483647 : Int) < cid.length) = false) (h2 : decide ((2147483647 : Int) < n) = false) (hep : ep < 65536) (w : World)
    (v0 : w.cell? ⟨3, 0, none⟩ = some (.int .u8 254) ∧ w.cell? ⟨3, 1, none⟩ = some (.int .u8 255)) (v2 : w.cell? ⟨4, 0, none⟩ = some (.int .u8 254) ∧ w.cell? ⟨4, 1, none⟩ = some (.int .u8 253))
    (ad : Addr) (hg : w.cell? ⟨0, 0, none⟩ = some (.iface 155 (.pointer (some ad)))) :
    Calls Tryd.prog 3 #[.agg (rawN ct.toNat mj mn ep sq cl cid), .string (S r)] w fun e w' => e = .returned (.bool true) ∧ Below w.heap.size w w' := by
  have HF := Lib.hid (fun w => fitsH_yes ct.toNat mj mn ep sq cl cid w h)
  have h3 : (S r).size = n := by rw [S_size, hn]
  have HV := Lib.hid (And.intro v0 v2)
  have HG := Lib.hid hg
  obtain ⟨cid', hcid', hlen', hc'⟩ : ∃ cid' : List UInt8, (ct.toNat = 25 → cid' = cid) ∧ (ct.toNat ≠ 25 → cid' = []) ∧ (ct.toNat = 25 ∨ cid' = []) := by
    by_cases hh : ct.toNat = 25
    · exact ⟨cid, fun _ => rfl, fun h => absurd hh h, .inl hh⟩
    · exact ⟨[], fun h => absurd h hh, fun _ => rfl, .inr rfl⟩
  have hm' : (cid'.length : Int) ≤ 2147483647 := by
    by_cases hh : ct.toNat = 25
    · rw [hcid' hh]; simpa using h
    · rw [hlen' hh]; simp
  obtain ⟨m, hm⟩ : ∃ m, cid'.length = m := ⟨_, rfl⟩
  rw [hm] at hm'
  have HN := Lib.hid hn
  have HM := Lib.hid hm
  have HM3 := Lib.hid hm'
  have H2 : Hid ((n : Int) ≤ 2147483647) := Lib.hid (by simpa using h2)
  have HC := Lib.hid hc'
  have HEP := Lib.hid hep
  have HC1 := Lib.hid hcid'
  have HC2 := Lib.hid hlen'
  clear h hn v0 v2 hg hcid' hlen' hc' hm hm' hep
  have key : (ct.toNat = 25 ∧ ((ct.toNat : Int) != 25) = false) ∨ (ct.toNat ≠ 25 ∧ ((ct.toNat : Int) != 25) = true) := by
    by_cases hh : ct.toNat = 25
    · exact .inl ⟨hh, by rw [hh]; rfl⟩
    · exact .inr ⟨hh, by simp; omega⟩
  rcases key with ⟨hh, d1⟩ | ⟨hh, d1⟩
  all_goals
    replace hh := Lib.hid hh
    go_enter Tryd.func3, Tryd.ntmps3
    have hg := heap_alloc_new w (.cells (rawN ct.toNat mj mn ep sq cl cid) 25)
    go_wp2_with (with_reducible refine Held.load 25 ?_)
    refine held_load_row (cs := rawN ct.toNat mj mn ep sq cl cid) hg Tryd.underlying25 recInfo rfl ?_
    clear hg
    go_wp2_with fail
    refine (HF.out _).mono ?_
    rintro e w1 ⟨rfl, hb1⟩
    have hk1 := (Blk.new w 25 (rawN ct.toNat mj mn ep sq cl cid)).keep hb1
    have hT1 := below_two (below_alloc w _) hb1
    have k0 := (hk1.cell 0).trans (rfl : _ = some (Value.int .u8 (ct.toNat : Int)))
    have k1 := (hk1.cell 1).trans (rfl : _ = some (Value.int .u8 mj))
    have k2 := (hk1.cell 2).trans (rfl : _ = some (Value.int .u8 mn))
    have k6 := (hk1.cell 6).trans (rfl : _ = some (Value.string (S cid)))
    have f1 := hk1.frozen 1
    have f2 := hk1.frozen 2
    have f6 := hk1.frozen 6
    have HK1 := Lib.hid hk1
    have HT1 := Lib.hid hT1
    clear hk1 hT1 hb1 HF
    go_wp2_with (with_reducible refine Held.load 25 ?_)
    obtain ⟨sqv, hsqv⟩ : ∃ d, decide ((281474976710655 : Int) < (sq : Int)) = d := ⟨_, rfl⟩
    first
      | (have hd : ((ct.toNat : Int) != 25) = true := d1
         have hkX : Blk (((w1.setCell ⟨w.heap.size, 1, none⟩ (.int .u8 254)).setCell ⟨w.heap.size, 2, none⟩ (.int .u8 253)).setCell ⟨w.heap.size, 6, none⟩ (.string ⟨#[]⟩)) w.heap.size 25 ((((rawN ct.toNat mj mn ep sq cl cid).setIfInBounds 1 (.int .u8 254)).setIfInBounds 2 (.int .u8 253)).setIfInBounds 6 (.string (S []))) := ((HK1.out.set_ 1 (.int .u8 254)).set_ 2 (.int .u8 253)).set_ 6 (.string (S []))
         have hTX := ((HT1.out.setCell (p := ⟨w.heap.size, 1, none⟩) (Nat.le_refl _) (.int .u8 254)).setCell (p := ⟨w.heap.size, 2, none⟩) (Nat.le_refl _) (.int .u8 253)).setCell (p := ⟨w.heap.size, 6, none⟩) (Nat.le_refl _) (.string ⟨#[]⟩)
         clear k0 k1 k2 k6 f1 f2 f6
         generalize ((w1.setCell ⟨w.heap.size, 1, none⟩ (.int .u8 254)).setCell ⟨w.heap.size, 2, none⟩ (.int .u8 253)).setCell ⟨w.heap.size, 6, none⟩ (.string ⟨#[]⟩) = X at *
         rw [← HC2.out hh.out] at hkX)
      | (have hd : ((ct.toNat : Int) != 25) = false := d1
         have hkX := (HK1.out.set_ 1 (.int .u8 254)).set_ 2 (.int .u8 253)
         have hTX := (HT1.out.setCell (p := ⟨w.heap.size, 1, none⟩) (Nat.le_refl _) (.int .u8 254)).setCell (p := ⟨w.heap.size, 2, none⟩) (Nat.le_refl _) (.int .u8 253)
         clear k0 k1 k2 k6 f1 f2 f6
         generalize (w1.setCell ⟨w.heap.size, 1, none⟩ (.int .u8 254)).setCell ⟨w.heap.size, 2, none⟩ (.int .u8 253) = X at *
         rw [← HC1.out hh.out] at hkX)
    have hkN : Blk X w.heap.size 25 (recN ct.toNat ep sq cl cid') := by simpa [rawN, recN] using hkX
    have HKX := Lib.hid hkN
    have HTX := Lib.hid hTX
    clear hkX hkN hTX HK1 HT1
    refine held_load_row (cs := recN ct.toNat ep sq cl cid') HKX.out Tryd.underlying25 recInfo rfl ?_
    cases sqv with
    | true =>
      have HW := Lib.hid (headerWrite_no ct cid' ep sq cl m hsqv HM.out HM3.out X ad (keep_of_below HTX.out _ _ HG.out))
      go_wp2_with fail
      refine HW.out.mono ?_
      rintro e w2 ⟨rfl, hb2⟩
      have k4 := ((HKX.out.keep hb2).cell 4).trans (rfl : _ = some (Value.int .u64 (sq : Int)))
      have hT2 := below_two HTX.out hb2
      clear hb2
      go_wp2_with fail
      go_ret
      exact ⟨rfl, hT2⟩
    | false =>
      obtain ⟨o, ho⟩ : ∃ o, hdOut ct 254 253 ep sq cl cid' = o := ⟨_, rfl⟩
      have HW := Lib.hid (headerWrite_any ct cid' ep sq cl m hsqv HM.out HM3.out o ho X)
      have hol : o.length = 13 + m := by rw [← ho, hdOut_length, HM.out]
      obtain ⟨l, hl⟩ : ∃ l, o ++ r = l := ⟨_, rfl⟩
      have hll : l.length = 13 + m + n := by rw [← hl, List.length_append, hol, HN.out]
      have hadd := fun w1 => run_add_eq (P := Tryd.prog) o r l hl (by have := HM3.out; have := H2.out; omega) w1
      have hsq' : sq < 281474976710656 := by simp at hsqv; omega
      have HR := Lib.hid (fun w v0 v2 => headerRead_any ct cid' r ep sq m l cl (by rw [ho, hl]) HEP.out hsq' HM.out HM3.out HC.out (by have := HM3.out; have := H2.out; simp only [maxLen]; omega) w v0 v2)
      have h4 : (S cid').size = m := by rw [S_size, HM.out]
      clear ho hol hl hll hsq' hsqv
      go_wp2_with fail
      refine HW.out.mono ?_
      rintro e w2 ⟨rfl, hb2⟩
      have hk2 := HKX.out.keep hb2
      have k6 := (hk2.cell 6).trans (rfl : _ = some (Value.string (S cid')))
      have HK2 := Lib.hid hk2
      have HT2 := Lib.hid (below_two HTX.out hb2)
      clear hb2 hk2 HKX HTX HW
      go_wp2_with fail
      refine (HR.out w2 ⟨keep_of_below HT2.out _ _ HV.out.1.1, keep_of_below HT2.out _ _ HV.out.1.2⟩ ⟨keep_of_below HT2.out _ _ HV.out.2.1, keep_of_below HT2.out _ _ HV.out.2.2⟩).mono ?_
      rintro e w3 ⟨rfl, hb3⟩
      have HK3 := Lib.hid (HK2.out.keep hb3)
      have HT3 := Lib.hid (below_two HT2.out hb3)
      clear hb3 k6 HK2 HT2 HR
      go_wp2_with (with_reducible refine Held.store 25 ?_)
      refine held_store_new (cells := recN ct.toNat ep sq 0 cid') recInfo rfl rfl rfl (by simp [recN, Value.oneCell']) fun w4 hk4 hb4 hsz4 => ?_
      clear hsz4
      have hkb := HK3.out.keep hb4
      have c5 := (hk4.cell 5).trans (rfl : _ = some (Value.int .u16 0))
      have f5 := hk4.frozen 5
      have b5 := (hkb.cell 5).trans (rfl : _ = some (Value.int .u16 (cl : Int)))
      have hT4 := below_two HT3.out hb4
      have HK5 : Hid (Blk (w4.setCell ⟨w3.heap.size, 5, none⟩ (.int .u16 (cl : Int))) w3.heap.size 25 (recN ct.toNat ep sq cl cid')) := Lib.hid (by simpa [recN] using hk4.set_ 5 (.int .u16 (cl : Int)))
      have hne : w.heap.size ≠ w3.heap.size := by have := HK3.out.lt; omega
      have HKB := Lib.hid (hkb.grown (grown_set w4 w3.heap.size 5 (.int .u16 (cl : Int))) (by simpa using hne))
      have HT5 := Lib.hid (hT4.setCell (p := ⟨w3.heap.size, 5, none⟩) HT3.out.size (.int .u16 (cl : Int)))
      clear hk4 hb4 hkb hT4 hne HK3 HT3
      go_wp2_with (with_reducible refine Held.loadg 25 ?_)
      refine held_loadg_row (cs := #[.int .u8 (ct.toNat : Int), .int .u8 254, .int .u8 253, .int .u16 (ep : Int), .int .u64 (sq : Int), .int .u16 (cl : Int), .string (S cid')]) HK5.out Tryd.underlying25 recInfo (by with_unfolding_all rfl) rfl ?_
      go_wp2_with (with_reducible refine Held.loadg 25 ?_)
      refine held_loadg_row (cs := #[.int .u8 (ct.toNat : Int), .int .u8 254, .int .u8 253, .int .u16 (ep : Int), .int .u64 (sq : Int), .int .u16 (cl : Int), .string (S cid')]) HKB.out Tryd.underlying25 recInfo (by with_unfolding_all rfl) rfl ?_
      have he : ((S cid').toList == (S cid').toList) = true := by simp
      go_wp2_with fail
      go_ret
      exact ⟨rfl, HT5.out⟩
theorem hdl_row (cs : Array Value) (hk : cs.size = 7) (x0 : Int) (e0 : cs[0]? = some (.int .u8 x0)) (w0 : (Lit.int .u8 x0).wf = true) (x1 : Int) (e1 : cs[1]? = some (.int .u8 x1)) (w1 : (Lit.int .u8 x1).wf = true) (x2 : Int) (e2 : cs[2]? = some (.int .u8 x2)) (w2 : (Lit.int .u8 x2).wf = true) (x3 : Int) (e3 : cs[3]? = some (.int .u16 x3)) (w3 : (Lit.int .u16 x3).wf = true)
    (x4 : Int) (e4 : cs[4]? = some (.int .u64 x4)) (w4 : (Lit.int .u64 x4).wf = true) (x5 : Int) (e5 : cs[5]? = some (.int .u16 x5)) (w5 : (Lit.int .u16 x5).wf = true) (l6 : List UInt8) (e6 : cs[6]? = some (.string (S l6))) (r : List UInt8) (w : World)
    (v0 : w.cell? ⟨3, 0, none⟩ = some (.int .u8 254) ∧ w.cell? ⟨3, 1, none⟩ = some (.int .u8 255)) (v2 : w.cell? ⟨4, 0, none⟩ = some (.int .u8 254) ∧ w.cell? ⟨4, 1, none⟩ = some (.int .u8 253))
    {p q : Prop} (ad2 : Addr) (g2 : p) (ad : Addr) (hg : w.cell? ⟨0, 0, none⟩ = some (.iface 155 (.pointer (some ad)))) (ad4 : Addr) (g4 : q) :
    Calls Tryd.prog 3 #[.agg cs, .string (S r)] w fun e w' => e = .returned (.bool true) ∧ Below w.heap.size w w' := by
  obtain ⟨ctn, rfl, hct⟩ := nat_u8 w0
  obtain ⟨ep, rfl, hep⟩ := nat_u16 w3
  obtain ⟨sq, rfl, _⟩ := nat_u64 w4
  obtain ⟨cl, rfl, _⟩ := nat_u16 w5
  obtain ⟨ct, rfl⟩ : ∃ ct : UInt8, ct.toNat = ctn := ⟨UInt8.ofNat ctn, by rw [UInt8.toNat_ofNat']; omega⟩
  have hcs : cs = rawN ct.toNat x1 x2 ep sq cl l6 := by
    apply Array.ext_getElem?
    intro i
    match i with
    | 0 => exact e0
    | 1 => exact e1
    | 2 => exact e2
    | 3 => exact e3
    | 4 => exact e4
    | 5 => exact e5
    | 6 => exact e6
    | i + 7 =>
      rw [Array.getElem?_eq_none (by omega), Array.getElem?_eq_none (by simp [rawN])]
  rw [hcs]
  by_cases h : (2147483647 : Int) < l6.length
  · exact hdl_no _ _ _ _ _ _ l6 r (by simpa using h) w
  by_cases h2 : (2147483647 : Int) < r.length
  · exact hdl_big _ _ _ _ _ _ l6 r _ rfl (by simpa using h) (by simpa using h2) w
  exact hdl_any ct x1 x2 ep sq cl l6 r _ rfl (by simpa using h) (by simpa using h2) (by omega) w v0 v2 ad hg
end Go.Proofs.YtmappdbodnlepaaDoor
