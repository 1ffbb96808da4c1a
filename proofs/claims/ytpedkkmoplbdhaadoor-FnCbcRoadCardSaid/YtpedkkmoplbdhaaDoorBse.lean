/- Walks: a record by cipher block chaining is sealed, in the specification (the padding). -/
import Derived.Test.YtpedkkmoplbdhaaDoorBsp
namespace Go.Proofs.YtpedkkmoplbdhaaDoor
open Go.RowKit Go.Cv
set_option maxRecDepth 100000
set_option linter.unusedVariables false
theorem rep_snoc (p : UInt8) (j : Nat) : List.replicate (j + 1) p = List.replicate j p ++ [p] := List.replicate_succ'
set_option maxHeartbeats 1000000 in
theorem sCbcSeal (key mk iv pl : List UInt8) (kind : Nat) (hk : kind < 64) (ct p : UInt8) (ep sq cl more D ts A pn nB : Nat) (hiv : iv.length = 16) (hts : toySize kind = ts) (hD : pl.length = D) (hD3 : D ≤ 2000) (hm : mk.length ≤ 2000) (hmore : more ≤ 14) (hA : D + ts = A) (hpn : pn + A % 16 = 15 + 16 * more) (hp : p.toNat = pn) (hnB : A + (pn + 1) = 16 * nB) (hep : (ep : Int) < 65536) (w : World) :
    Calls Tryd.prog 23 #[.string (S key), .string (S mk), .string (S iv), .int .i64 (kind : Nat), .agg (recRow ct.toNat 254 253 ep sq cl []), .string (S pl), .int .i64 (more : Nat)] w fun e w' =>
      e = .returned (.string (S (iv ++ cHid key nB iv (pl ++ toyHmac kind mk (add13 ct 254 253 ep sq D ++ pl) ++ List.replicate (pn + 1) p)))) ∧ Below w.heap.size w w' := by
  have hts4 : ts ≤ 32 := by rw [← hts]; unfold toySize; omega
  have H1 := Lib.hid (fun W => sMac kind hk ct ep sq cl pl mk D hD (by omega) (by omega) hep W)
  have hml : (toyHmac kind mk (add13 ct 254 253 ep sq D ++ pl)).length = ts := by rw [toyHmac_length, hts]
  obtain ⟨mac, hmac⟩ : ∃ a, toyHmac kind mk (add13 ct 254 253 ep sq D ++ pl) = a := ⟨_, rfl⟩
  rw [hmac] at H1 hml ⊢
  obtain ⟨s0, hs0⟩ : ∃ a, pl ++ mac = a := ⟨_, rfl⟩
  have h0l : s0.length = A := by rw [← hs0, List.length_append, hD, hml, hA]
  have ha0 := fun w => run_add_eq (P := Tryd.prog) pl mac s0 hs0 (by omega) w
  rw [hs0]
  have hz0 : (S s0).size = A := by rw [S_size, h0l]
  have H2 := Lib.hid (fun W => sHid key iv (s0 ++ List.replicate (pn + 1) p) nB hiv (by rw [List.length_append, h0l, List.length_replicate, hnB]) (by omega) W)
  obtain ⟨out, hout⟩ : ∃ a, cHid key nB iv (s0 ++ List.replicate (pn + 1) p) = a := ⟨_, rfl⟩
  have hol : out.length = 16 * nB := by rw [← hout, cHid_length]
  rw [hout] at H2 ⊢
  obtain ⟨fin, hfin⟩ : ∃ a, iv ++ out = a := ⟨_, rfl⟩
  have haf := fun w => run_add_eq (P := Tryd.prog) iv out fin hfin (by rw [← hfin, List.length_append, hol, hiv]; omega) w
  rw [hfin]
  obtain ⟨r, hr⟩ : ∃ r, A % 16 = r := ⟨_, rfl⟩
  obtain ⟨q1, hq1⟩ : ∃ q, 15 - r = q := ⟨_, rfl⟩
  obtain ⟨m16, hm16⟩ : ∃ q, 16 * more = q := ⟨_, rfl⟩
  have HP := Lib.hid (And.intro hp (show pn ≤ 239 by omega))
  have HL := Lib.hid (And.intro h0l (show A ≤ 3000 by omega))
  have Hf1 : Hid ((A : Int).tmod 16 = (r : Int)) := Lib.hid (by rw [Int.tmod_eq_emod_of_nonneg (by omega)]; omega)
  have Hf2 : Hid ((A : Int) % 16 = (r : Int)) := Lib.hid (by omega)
  have Hf3 : Hid ((15 : Int) - (r : Int) = (q1 : Int)) := Lib.hid (by omega)
  have Hf4 : Hid ((16 : Int) * (more : Int) = (m16 : Int)) := Lib.hid (by omega)
  have Hf5 : Hid ((q1 : Int) + (m16 : Int) = (pn : Int)) := Lib.hid (by omega)
  have Hg1 : Hid (wrap64 (r : Int) = (r : Int)) := Lib.hid (by unfold wrap64; omega)
  have Hg2 : Hid (wrap64 (q1 : Int) = (q1 : Int)) := Lib.hid (by unfold wrap64; omega)
  have Hg3 : Hid (wrap64 (m16 : Int) = (m16 : Int)) := Lib.hid (by unfold wrap64; omega)
  have Hg4 : Hid (wrap64 (pn : Int) = (pn : Int)) := Lib.hid (by unfold wrap64; omega)
  have Hi2 : Hid (IntKind.i64.wrap (q1 : Int) = (q1 : Int)) := Lib.hid (i64_nat q1 (by omega))
  have Hi3 : Hid (IntKind.i64.wrap (m16 : Int) = (m16 : Int)) := Lib.hid (i64_nat m16 (by omega))
  have Hi4 : Hid (IntKind.i64.wrap (pn : Int) = (pn : Int)) := Lib.hid (i64_nat pn (by omega))
  have Hi1 : Hid (IntKind.i64.wrap (r : Int) = (r : Int)) := Lib.hid (i64_nat r (by omega))
  have Hg5 : Hid (IntKind.u8.wrap (pn : Int) = (p.toNat : Int)) := Lib.hid (by rw [IntKind.wrap_u8, hp]; omega)
  generalize hcs : recRow ct.toNat 254 253 ep sq cl [] = cs at H1 ⊢
  have hi : (Tryd.prog.info? 25).map (·.size) = some cs.size := by rw [← hcs]; exact recInfo
  clear hcs hiv hts hD hD3 hm hmore hA hpn hp hnB hep hts4 hml hmac hs0 h0l hout hol hfin hr hq1 hm16 hk
  go_enter Tryd.func23, Tryd.ntmps23
  have hg := Blk.new w 25 cs
  have hb0 := below_alloc w (.cells cs 25)
  go_wp2_with (with_reducible refine Held.load 25 ?_)
  refine held_load_row hg Tryd.underlying25 hi rfl ?_
  generalize (World.alloc w _) = w0 at *
  have HB0 := Lib.hid hb0
  clear hb0 hg hi
  go_wp2_with fail
  refine (H1.out w0).mono ?_
  rintro e w1 ⟨rfl, hb1⟩
  have HB1 := Lib.hid (below_two HB0.out hb1)
  clear hb1
  have f1 := Hf1.out
  have f2 := Hf2.out
  have f3 := Hf3.out
  have f4 := Hf4.out
  have f5 := Hf5.out
  have g1 := Hg1.out
  have g2 := Hg2.out
  have g3 := Hg3.out
  have g4 := Hg4.out
  have i1 := Hi1.out
  have i2 := Hi2.out
  have i3 := Hi3.out
  have i4 := Hi4.out
  go_wp2_with fail
  clear f1 f2 f3 f4 f5 g1 g2 g3 g4 i1 i2 i3 i4
  go_loopw [15, 17] (fun s i wr => ∃ j : Nat, j ≤ pn + 1 ∧ s = .string (S (s0 ++ List.replicate j p)) ∧ i = .int .i64 j ∧ Hid (Below w.heap.size w wr)) (fun _ i _ => (pn + 1) - (intOf i).toNat)
  case atStart => exact ⟨0, Nat.zero_le _, by rw [List.replicate_zero, List.append_nil], rfl, HB1⟩
  case round =>
    obtain ⟨j, hj, rfl, rfl, HJ⟩ := hrel
    by_cases hlt : j < pn + 1
    · have t0 : decide ((j : Int) ≤ pn) = true := decide_eq_true (by omega)
      have t1 : (j : Int) ≤ pn := by omega
      obtain ⟨sj, hsj⟩ : ∃ a, s0 ++ List.replicate j p = a := ⟨_, rfl⟩
      obtain ⟨sk, hsk⟩ : ∃ a, sj ++ [p] = a := ⟨_, rfl⟩
      have hak := fun w => run_add_eq (P := Tryd.prog) sj [p] sk hsk (by rw [← hsk, ← hsj]; simp only [List.length_append, List.length_replicate, List.length_cons, List.length_nil]; have := HL.out; have := HP.out; omega) w
      have HSK : Hid (sk = s0 ++ List.replicate (j + 1) p) := Lib.hid (by rw [← hsk, ← hsj, rep_snoc, List.append_assoc])
      rw [hsj]
      have hjl : pn + 1 ≤ 4294967296 := by have := HP.out; omega
      have Hjw := Lib.hid (w64_inc hlt hjl)
      have g5 := Hg5.out
      clear hsj hsk hjl
      go_wp2_with fail
      have hbx := below_alloc wr (.cells #[.int .u8 (p.toNat : Int)] 5)
      have hrx : Rd (wr.alloc (.cells #[.int .u8 (p.toNat : Int)] 5)) (some ⟨wr.heap.size, 0, none⟩) (vs [p]) := rd_single _ _ _
      have HBX := Lib.hid (below_two HJ.out hbx)
      clear hbx
      refine upon_conv_bs 51 9 5 Tryd.underlying51 Tryd.underlying5 Tryd.underlying9 [p] _ _ _ rfl hrx ?_
      clear hrx g5
      generalize (World.alloc wr _) = w3 at *
      have jw := Hjw.out
      go_wp2_with fail
      go_roundw
      case rel => exact ⟨j + 1, hlt, by rw [HSK.out], by first | (rw [jw]; go_num) | go_num, HBX⟩
      case measure => first | exact s_meas hlt | (rw [jw]; exact s_meas hlt)
    · obtain rfl : pn + 1 = j := by omega
      have t0 : decide (((pn + 1 : Nat) : Int) ≤ pn) = false := decide_eq_false (by omega)
      have t1 : ¬ ((pn + 1 : Nat) : Int) ≤ pn := by omega
      have t2 : decide ((pn : Int) + 1 ≤ pn) = false := decide_eq_false (by omega)
      have t3 : ¬ (pn : Int) + 1 ≤ pn := by omega
      have HF := Lib.hid HJ.out
      clear HJ hlt hj
      go_wp2_with fail
      refine (H2.out wr).mono ?_
      rintro e w4 ⟨rfl, hb4⟩
      have HZ := Lib.hid (below_two HF.out hb4)
      clear hb4
      go_wp2_with fail
      first | go_ret2 | go_ret
      exact ⟨rfl, HZ.out⟩
end Go.Proofs.YtpedkkmoplbdhaaDoor
