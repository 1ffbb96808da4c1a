/- Walks: a record is sealed. -/
import Derived.Test.YtpedkkmoplbdhaaDoorChA
import Derived.Test.YtpedkkmoplbdhaaDoorCh
import Derived.Deep.DeepCutAuto
import Derived.LoopTactic
import Derived.Test.YtpedkkmoplbdhaaDoorBase
namespace Go.Proofs.YtpedkkmoplbdhaaDoor
open Go.RowKit Go.Cv
set_option maxRecDepth 100000
set_option linter.unusedVariables false
def chRow (key : List UInt8) (A B : Option Addr) (c d : Nat) : Array Value := #[.iface 101 (.agg #[.string (S key), .int .i64 12, .int .i64 16]), .iface 101 (.agg #[.string (S key), .int .i64 12, .int .i64 16]), .slice A 12 c, .slice B 12 d]
theorem pkc {W : World} {b ct maj mn ep sq cl n c : Nat} {t : TypeId} {A : Option Addr} (hk : Blk W b t (pkRow ct maj mn ep sq cl A n c)) :
    W.cell? ⟨b, 0, none⟩ = some (.int .u8 (ct : Int)) ∧ W.cell? ⟨b, 4, none⟩ = some (.int .u16 (ep : Int)) ∧ W.cell? ⟨b, 5, none⟩ = some (.int .u64 (sq : Int)) ∧ W.cell? ⟨b, 6, none⟩ = some (.slice A n c) :=
  ⟨(hk.cell 0).trans rfl, (hk.cell 4).trans rfl, (hk.cell 5).trans rfl, (hk.cell 6).trans rfl⟩
theorem Rd.drop' {w : World} {b o : Nat} {xs ys : List Value} (h : Rd w (some ⟨b, o, none⟩) (xs ++ ys)) : Rd w (some ⟨b, o + xs.length, none⟩) ys := by
  rcases h with h | ⟨b', o', hA, h⟩
  · obtain ⟨_, h2⟩ := List.append_eq_nil_iff.1 h
    exact .inl h2
  · injection hA with hA
    injection hA with hb ho
    subst hb ho
    refine .inr ⟨_, _, rfl, fun j v hj => ?_⟩
    rw [Nat.add_assoc]
    exact h (xs.length + j) v (by rw [List.getElem?_append_right (Nat.le_add_right _ _), Nat.add_sub_cancel_left]; exact hj)
theorem put_vs (hd sl : List UInt8) (e v : Nat) (he : e + 1 < hd.length) : ((vs hd ++ vs sl).set e (.int .u8 ((v : Int) / 256 % 256))).set (e + 1) (.int .u8 ((v : Int) % 256)) = vs (((hd.set e (UInt8.ofNat (v / 256))).set (e + 1) (UInt8.ofNat v)) ++ sl) := by
  have h1 : ((v : Int) / 256 % 256) = ((UInt8.ofNat (v / 256)).toNat : Int) := by rw [UInt8.toNat_ofNat']; omega
  have h2 : ((v : Int) % 256) = ((UInt8.ofNat v).toNat : Int) := by rw [UInt8.toNat_ofNat']; omega
  rw [h1, h2, List.set_append_left _ _ (by rw [vs_length]; omega), vs_set_, List.set_append_left _ _ (by rw [vs_length, List.length_set]; omega), vs_set_, ← vs_append]
theorem at_copyC {P : Program} {ops : Array Oper} {rest : List Oper} {dst : Option Nat} {ar : Array Operand} {ts : Array TypeId} {ty : TypeId} {ps : String} {af} {g} {a : Act} {Q : Exit → Act → World → Prop} {w : World}
    (h : Held (wpList P ops Q (⟨dst, .call { callee := .builtin .copy, args := ar, argTypes := ts }, ty, ps, af, g⟩ :: rest) a w)) : wpList P ops Q (⟨dst, .call { callee := .builtin .copy, args := ar, argTypes := ts }, ty, ps, af, g⟩ :: rest) a w := Held.on h
def chNonce (iv : List UInt8) (ep sq : Nat) : List UInt8 := xorL iv ([0, 0, 0, 0] ++ (be 2 ep ++ be 6 sq)) 12
set_option maxHeartbeats 4000000 in
theorem chEnc (g q : Nat) (key iv cid plain hd : List UInt8) (Ai Bi : Option Addr) (ci di ep sq cl n ra c ab ao m c1 p : Nat) (hk : key.length ≤ 2000) (hiv : iv.length = 12) (hcid : cid.length = n) (hn : n ≤ 255) (hpl : plain.length = p) (hp : p ≤ 2000) (hhd : hd.length = 13 + n) (hm : 13 + n + p = m) (hmc : m ≤ c1) (hep : ep < 65536) (hsq : sq < 281474976710656) (w : World)
    (hg : Blk w g 108 (chRow key Ai Bi ci di)) (hri : Rd w Ai (vs iv)) (hq : Blk w q 66 (pkRow 25 254 253 ep sq cl (some ⟨ra, 0, none⟩) n c)) (hrc : Rd w (some ⟨ra, 0, none⟩) (vs cid)) (hrr : Rd w (some ⟨ab, ao, none⟩) (vs (hd ++ plain))) :
    Calls Tryd.prog 26 #[.pointer (some ⟨g, 0, none⟩), .pointer (some ⟨q, 0, none⟩), .slice (some ⟨ab, ao, none⟩) m c1] w fun e w' => ∃ A' N c' h', e = .returned (.tuple #[.slice A' N c', .nilIface]) ∧ List.length h' = 13 + n ∧ 13 + n + (p + 16) = N ∧ N ≤ c' ∧ Rd w' A' (vs (h' ++ aSeal key (chNonce iv ep sq) plain (acid 254 253 ep sq cid p) 16)) ∧ Below w.heap.size w w' := by
  have HSZ := Lib.hid (fun W (h : Below w.heap.size w W) => hdrSize q n c ra W (pkc (hq.keep h)).2.2.2 hn)
  obtain ⟨h, hh⟩ : ∃ h, 13 + n = h := ⟨_, rfl⟩
  rw [hh] at HSZ hhd hm ⊢
  have HM := Lib.hid (And.intro hh (And.intro hm hmc))
  have HPL := Lib.hid (And.intro hpl (And.intro hp hhd))
  have HRR := Lib.hid hrr
  have HG := Lib.hid hg
  have HQ := Lib.hid hq
  have HRI := Lib.hid (And.intro hiv hri)
  have HRC := Lib.hid (And.intro hcid (And.intro hn hrc))
  have HSQ := Lib.hid (And.intro hep (And.intro hsq hk))
  have i1 : (h : Int) ≤ m := by omega
  have i2 : (h : Int) ≤ c1 := by omega
  have i3 : ¬ (m : Int) < h := by omega
  have i4 : ¬ (c1 : Int) < h := by omega
  clear hk hiv hcid hn hpl hp hhd hh hm hmc hep hsq hg hri hq hrc hrr
  go_enter Tryd.func26, Tryd.ntmps26
  go_upto_region 1 with (fail)
  go_cut [8] (fun s8 wx => ∃ X k, s8 = .slice X p k ∧ Hid (Rd w X (vs plain)) ∧ wx = w)
  case first =>
    by_cases hz : c1 = h
    · have hm0 : m = h := by have := HM.out; omega
      have hp0 : p = 0 := by have := HM.out; omega
      subst hz hm0 hp0
      go_wp2_with fail
      refine (HSZ.out w (Below.refl _ _)).mono ?_
      rintro e w1 ⟨rfl, rfl⟩
      go_wp2_with fail
      go_meet
      case rel => exact ⟨_, _, rfl, Lib.hid (by rw [List.eq_nil_of_length_eq_zero HPL.out.1]; exact .inl rfl), rfl⟩
    · have hz2 : ¬ h = c1 := fun e => hz e.symm
      go_wp2_with fail
      refine (HSZ.out w (Below.refl _ _)).mono ?_
      rintro e w1 ⟨rfl, rfl⟩
      go_wp2_with fail
      go_meet
      case rel => exact ⟨some ⟨ab, ao + h, none⟩, c1 - h, by rw [show m - h = p by have := HM.out; omega], Lib.hid (by
          have h1 := Rd.drop' (xs := vs hd) (ys := vs plain) (by rw [← vs_append]; exact HRR.out)
          rwa [vs_length, HPL.out.2.2] at h1), rfl⟩
  case rest =>
    obtain ⟨X, k, rfl, HX, rfl⟩ := hcut
    have HRH : Hid (Rd wc (some ⟨ab, ao, none⟩) (vs hd)) := Lib.hid (by
      have h1 := HRR.out.take (vs hd).length
      rwa [vs_append, List.take_left'] at h1
      rfl)
    go_wp2_with fail
    refine (HSZ.out wc (Below.refl _ _)).mono ?_
    rintro e w1 ⟨rfl, rfl⟩
    go_wp2_with fail
    obtain ⟨N, hN⟩ : ∃ N, wc.heap.size = N := ⟨_, rfl⟩
    have hB1 := below_alloc wc (.cells (Array.replicate 12 (Value.int .u8 0)) 104)
    have hK1 := Blk.new wc 104 (Array.replicate 12 (Value.int .u8 0))
    have hO1 : Own (wc.alloc (.cells (Array.replicate 12 (Value.int .u8 0)) 104)) N 1 (some ⟨N, 0, none⟩) 12 12 (Array.replicate 12 (Value.int .u8 0)).toList := own_blk (by rw [← hN]; exact hK1) N 12 (Nat.le_refl _) rfl (by simp only [maxLen]; omega)
    have hs1 := World.size_alloc wc (.cells (Array.replicate 12 (Value.int .u8 0)) 104)
    change Code.wp _ _ _ _ (wc.alloc (.cells (Array.replicate 12 (Value.int .u8 0)) 104))
    rw [hN] at hB1 hs1 ⊢
    generalize (wc.alloc (.cells (Array.replicate 12 (Value.int .u8 0)) 104)) = w1 at *
    have HN := Lib.hid hN
    have HOD : Hid (Own w1.drew N 1 (some ⟨N, 0, none⟩) 12 12 (Array.replicate 12 (Value.int .u8 0)).toList) := hO1
    have HBD : Hid (Below N wc w1.drew) := Lib.hid hB1.drew
    have HS1 : Hid (N < w1.drew.heap.size) := Lib.hid (by show N < w1.heap.size; omega)
    have cg : w1.drew.cell? ⟨g, 2, none⟩ = some (.slice Ai 12 ci) := ((HG.out.keep (by rw [HN.out]; exact HBD.out)).cell 2).trans rfl
    clear hB1 hK1 hO1 hs1 hN
    refine wp_region_still_tail 5 (by kernel_rfl) (by kernel_rfl) ?_
    simp only [List.take_succ_cons, List.take_zero, List.drop_succ_cons, List.drop_zero]
    change wpStill _ _ (World.drew w1) (fun a => wpList _ _ _ _ a (World.drew w1)) _ _
    generalize World.drew w1 = wd at *
    repeat still_step
    refine wpStill_nil ?_
    refine held_copy_any rfl (.tmp 27) (.tmp 31) 51 51 rfl N 5 Tryd.underlying51 (by kernel_rfl) (k := 0) (p := 0) (m := 12) (n' := 12) (by omega) rfl rfl HOD.out (ys := vs iv) (by rw [vs_length, HRI.out.1]; rfl) (by rw [vs_length, HRI.out.1]; omega) (HRI.out.2.keep (by rw [HN.out]; exact HBD.out)) (vs_one _) ?_
    intro w2 hO2 hg2
    have HO2 : Hid (Own w2 N 1 (some ⟨N, 0, none⟩) 12 12 (vs iv)) := Lib.hid (by
      rw [List.take_zero, List.nil_append, List.drop_of_length_le (by rw [vs_length, HRI.out.1]; exact Nat.le_refl _), List.append_nil] at hO2
      exact hO2)
    have HB2 : Hid (Below N wc w2) := Lib.hid (below_of_grown HBD.out hg2 (Nat.le_of_lt HS1.out) (Nat.le_refl _))
    have HS2 : Hid (N < w2.heap.size) := Lib.hid (Nat.lt_of_lt_of_le HS1.out hg2.size)
    clear hO2 hg2 cg HOD HBD HS1
    have hqk := HQ.out.keep (w' := w2) (by rw [HN.out]; exact HB2.out)
    obtain ⟨_, q4, q5, _⟩ := pkc hqk
    have wsh : IntKind.u64.wrap ((ep : Int) * 281474976710656) = (ep : Int) * 281474976710656 := by rw [IntKind.wrap_u64]; have := HSQ.out.1; omega
    have wep : IntKind.u64.wrap (ep : Int) = (ep : Int) := by rw [IntKind.wrap_u64]; have := HSQ.out.1; omega
    have han := seq_and sq HSQ.out.2.1
    have hor := seq_or ep sq HSQ.out.1 HSQ.out.2.1
    obtain ⟨Q, hQ⟩ : ∃ Q, ep * 281474976710656 + sq = Q := ⟨_, rfl⟩
    rw [hQ] at hor
    have HQQ := Lib.hid hQ
    clear hqk hQ
    go_wp2_with fail
    go_quiet (fail)
    have HO5 : Hid (Own (w2.drewN nq) N 1 (some ⟨N, 0, none⟩) 12 12 (vs (chN iv (be 8 Q) 0))) := Lib.hid (HO2.out.keep (below_drewN (Below.refl _ _) nq))
    have HB5 : Hid (Below N wc (w2.drewN nq)) := Lib.hid (below_drewN HB2.out nq)
    have HS5 : Hid (N < (w2.drewN nq).heap.size) := Lib.hid (Nat.lt_of_lt_of_le HS2.out (below_drewN (Below.refl w2.heap.size w2) nq).size)
    generalize w2.drewN nq = w5 at *
    clear HO2 HB2 HS2 q4 q5 wsh han hor wep
    go_wp2_with fail
    go_loopw [47] (fun i wr => ∃ j : Nat, j ≤ 8 ∧ i = .int .i64 j ∧ Hid (Own wr N 1 (some ⟨N, 0, none⟩) 12 12 (vs (chN iv (be 8 Q) j)) ∧ Below N wc wr)) (fun i _ => 8 - (intOf i).toNat)
    case atStart => exact ⟨0, Nat.zero_le _, rfl, Lib.hid ⟨HO5.out, HB5.out⟩⟩
    case round =>
      obtain ⟨j, hj, rfl, HJ⟩ := hrel
      by_cases hlt : j < 8
      · obtain ⟨u, hu⟩ : ∃ u, 4 + j = u := ⟨_, rfl⟩
        obtain ⟨v, hv⟩ : ∃ v, 8 * j = v := ⟨_, rfl⟩
        obtain ⟨s, hs⟩ : ∃ s, 56 - v = s := ⟨_, rfl⟩
        have hu12 : u < 12 := by omega
        obtain ⟨cx, fx⟩ := own_vs HJ.out.1 u hu12
        have HE : Hid (chN iv (be 8 Q) (j + 1) = (chN iv (be 8 Q) j).set u ((chN iv (be 8 Q) j).getD u 0 ^^^ UInt8.ofNat (Q / 2 ^ s))) := Lib.hid (by rw [chN, hu, be_at Q j hlt, hv, hs])
        obtain ⟨x, hx⟩ : ∃ x, (chN iv (be 8 Q) j).getD u 0 = x := ⟨_, rfl⟩
        obtain ⟨y, hy⟩ : ∃ y, UInt8.ofNat (Q / 2 ^ s) = y := ⟨_, rfl⟩
        rw [hx] at cx HE
        rw [hy] at HE
        have b0 : IntKind.u8.wrap ((Q : Int) / 2 ^ s) = (y.toNat : Int) := by
          have h1 := u8o (Q / 2 ^ s)
          rw [hy] at h1
          have h2 : ((Q / 2 ^ s : Nat) : Int) = (Q : Int) / 2 ^ s := by simp
          rw [h2] at h1
          exact h1
        have b1 := u8x x y
        obtain ⟨z, hz⟩ : ∃ z, x ^^^ y = z := ⟨_, rfl⟩
        rw [hz] at b1 HE
        have hset := Lib.hid (own_vs_set HJ.out.1 u z hu12)
        have HBJ := Lib.hid HJ.out.2
        have Hk1 : Hid (wrap64 (4 + (j : Int)) = (u : Int)) := Lib.hid (by unfold wrap64; omega)
        have Hk2 : Hid (IntKind.i64.wrap (4 + (j : Int)) = (u : Int)) := Lib.hid (by rw [IntKind.wrap_i64]; omega)
        have Hk3 : Hid (IntKind.u64.wrap (j : Int) = (j : Int)) := Lib.hid (by rw [IntKind.wrap_u64]; omega)
        have Hk4 : Hid (IntKind.u64.wrap ((j : Int) * 8) = (v : Int)) := Lib.hid (by rw [IntKind.wrap_u64]; omega)
        have Hk5 : Hid (IntKind.u64.wrap (56 - (v : Int)) = (s : Int)) := Lib.hid (by rw [IntKind.wrap_u64]; omega)
        have Hk6 : Hid (s ≤ 56) := Lib.hid (by omega)
        have Hjw := Lib.hid (w64_inc hlt (by omega))
        have k7 : (u : Int) < 12 := by omega
        have t8 : decide ((j : Int) < 8) = true := by simp; omega
        have k2 := Hk2.out
        have k3 := Hk3.out
        have k4 := Hk4.out
        have k5 := Hk5.out
        have k6 := Hk6.out
        clear Hk1 Hk2 Hk3 Hk4 Hk5 Hk6 hu hv hs hx hy hz HJ
        go_wp2_with fail
        go_roundw
        case rel => exact ⟨j + 1, hlt, by first | (rw [Hjw.out]; go_num) | go_num, Lib.hid ⟨by rw [HE.out]; exact hset.out, HBJ.out.setCell (p := ⟨N, u, none⟩) (Nat.le_refl _) _⟩⟩
        case measure => first | exact t_meas hlt | (rw [Hjw.out]; exact t_meas hlt)
      · obtain rfl : j = 8 := by omega
        have hch : chN iv (be 8 Q) 8 = chNonce iv ep sq := by rw [chN_all iv (be 8 Q) HRI.out.1 (be_length _ _), ← HQQ.out, be8_two ep sq HSQ.out.1 HSQ.out.2.1, chNonce]
        have HNO : Hid (Own wr N 1 (some ⟨N, 0, none⟩) 12 12 (vs (chNonce iv ep sq))) := Lib.hid (by rw [← hch]; exact HJ.out.1)
        have HB6 := Lib.hid HJ.out.2
        have hbe : Below wc.heap.size wc wr := by rw [HN.out]; exact HJ.out.2
        have q0 := (pkc (HQ.out.keep hbe)).1
        have HGE := Lib.hid (genP_any q 25 254 253 ep sq cl cid (some ⟨ra, 0, none⟩) c p (by rw [HRC.out.1]; exact HRC.out.2.1) (by omega) (by omega) (by have := HSQ.out.1; omega) (by have := HPL.out.2.1; omega) wr (by rw [HRC.out.1]; exact HQ.out.keep hbe) (HRC.out.2.2.keep hbe))
        have HBE := Lib.hid hbe
        clear HO5 HB5 HS5 HJ hbe hch hj hlt
        go_wp2_with fail
        refine HGE.out.mono ?_
        rintro e w7 ⟨A7, n7, c7, rfl, hl7, hr7, hb7⟩
        have HL7 := Lib.hid hl7
        have HR7 := Lib.hid hr7
        have HNO7 := Lib.hid (HNO.out.keep hb7)
        have HBE7 := Lib.hid (below_two HBE.out hb7)
        have g0 := ((HG.out.keep HBE7.out).cell 0).trans (rfl : _ = some (Value.iface 101 (.agg #[.string (S key), .int .i64 12, .int .i64 16])))
        have g0 : w7.drew.cell? ⟨g, 0, none⟩ = some (.iface 101 (.agg #[.string (S key), .int .i64 12, .int .i64 16])) := g0
        have HND : Hid (Own w7.drew N 1 (some ⟨N, 0, none⟩) 12 12 (vs (chNonce iv ep sq))) := HNO7
        have HRD : Hid (Rd w7.drew A7 (vs (acid 254 253 ep sq cid p))) := HR7
        have HBD : Hid (Below wc.heap.size wc w7.drew) := Lib.hid HBE7.out.drew
        clear hl7 hr7 hb7 HGE HNO HB6 q0 HBE HNO7 HR7 HBE7
        go_wp2_with fail
        refine wp_region_still_tail 9 (by kernel_rfl) (by kernel_rfl) ?_
        simp only [List.take_succ_cons, List.take_zero, List.drop_succ_cons, List.drop_zero]
        change wpStill _ _ (World.drew w7) (fun a => wpList _ _ _ _ a (World.drew w7)) _ _
        generalize World.drew w7 = wd at *
        repeat still_step
        refine wpStill_nil ?_
        go_wp2_with fail
        have HSE := Lib.hid (aeadSeal key (chNonce iv ep sq) plain (acid 254 253 ep sq cid p) 12 16 (by omega) (by omega) (by have := HSQ.out.2.2; omega) (by rw [chNonce, xorL_length]; omega) (by have := HPL.out.1; have := HPL.out.2.1; omega) (by simp only [acid, List.length_append, List.length_replicate, be_length]; rw [HRC.out.1]; have := HRC.out.2.1; omega) (some ⟨N, 0, none⟩) X A7 12 p n7 12 k c7 (by rw [chNonce, xorL_length]) HPL.out.1 HL7.out wd HND.out.rd (HX.out.keep HBD.out) HRD.out)
        refine HSE.out.mono ?_
        rintro e w8 ⟨A8, c8, rfl, hO8, hi8, hb8⟩
        have HO8 := Lib.hid hO8.rd
        have hc8 : p + 16 ≤ c8 := hO8.2.1
        have HB8 := Lib.hid (below_two HBD.out hb8)
        have HRH8 := Lib.hid (HRH.out.keep HB8.out)
        have HQ8 := Lib.hid (HQ.out.keep HB8.out)
        have HA8 : Hid (∀ b, b ∈ (A8.map (·.block)).toList → b < w8.heap.size) := Lib.hid (fun b hb => hO8.lo (by omega) b (by simpa using hb))
        have HQL : Hid (q < wc.heap.size) := Lib.hid HQ.out.lt
        have HAL := Lib.hid (aSeal_length key (chNonce iv ep sq) plain (acid 254 253 ep sq cid p) 16 (by omega))
        obtain ⟨sl, hsl⟩ : ∃ s, aSeal key (chNonce iv ep sq) plain (acid 254 253 ep sq cid p) 16 = s := ⟨_, rfl⟩
        rw [hsl] at HO8 HAL
        have HSL := Lib.hid hsl
        obtain ⟨P, hP⟩ : ∃ P, p + 16 = P := ⟨_, rfl⟩
        obtain ⟨M, hM⟩ : ∃ M, h + P = M := ⟨_, rfl⟩
        have HPM := Lib.hid (And.intro hP hM)
        have e1 : (h : Int) + (P : Int) = (M : Int) := by omega
        have e2 : IntKind.i64.wrap (M : Int) = (M : Int) := i64_nat M (by have h1 := HPL.out.2.1; have h2 := HM.out.1; have h3 := HRC.out.2.1; omega)
        have HMB : Hid (M ≤ 3000) := Lib.hid (by have h1 := HPL.out.2.1; have h2 := HM.out.1; have h3 := HRC.out.2.1; omega)
        rw [hP]
        clear hO8 hi8 hb8 HSE HND HRD HBD g0 hP hM hc8 hsl HX
        go_wp2_with fail
        refine upon_make 51 5 (.int .u8 0) 1 Tryd.underlying51 t_u8info rfl M M rfl rfl (Nat.le_refl _) (by have := HMB.out; omega) (by have := HMB.out; simp only [maxLen]; omega) ?_
        intro w9 hO9 hb9 hs9
        have HO9 := Lib.hid hO9
        have HB9 := Lib.hid (below_two HB8.out hb9)
        have HR9 := Lib.hid (HO8.out.keep hb9)
        have HRH9 := Lib.hid (HRH8.out.keep hb9)
        have HQ9 := Lib.hid (HQ8.out.keep hb9)
        obtain ⟨R, hR⟩ : ∃ R, w8.heap.size = R := ⟨_, rfl⟩
        rw [hR] at HO9 hb9 hs9 HA8 ⊢
        have HRS : Hid (R < w9.heap.size ∧ wc.heap.size ≤ R) := Lib.hid ⟨by omega, by rw [← hR]; exact HB8.out.size⟩
        clear hO9 hb9 hs9 hR HO8 HRH8 HQ8 HB8 e1 e2
        go_wp2_with (with_reducible refine at_copyC ?_)
        refine held_copy_any rfl (.tmp 98) (.tmp 99) 51 51 rfl R 5 Tryd.underlying51 (by kernel_rfl) (k := 0) (p := 0) (m := h) (n' := M) (by omega) rfl rfl HO9.out (ys := vs hd) (by rw [vs_length, HPL.out.2.2]; show h = Nat.min h M; exact (Nat.min_eq_left (by have := HPM.out; omega)).symm) (by rw [vs_length, HPL.out.2.2]; have := HPM.out; omega) HRH9.out (vs_one _) ?_
        intro w10 hO10 hg10
        have hz : (List.replicate M (Value.int .u8 0)).take 0 ++ (vs hd ++ (List.replicate M (Value.int .u8 0)).drop (0 + (vs hd).length)) = vs hd ++ List.replicate P (Value.int .u8 0) := by
          rw [List.take_zero, List.nil_append, vs_length, HPL.out.2.2, List.drop_replicate, Nat.zero_add, show M - h = P by have := HPM.out; omega]
        rw [hz] at hO10
        have HO10 := Lib.hid hO10
        have HB10 := Lib.hid (below_of_grown HB9.out hg10 (by have := HRS.out; omega) HRS.out.2)
        have hT10 : Tch [R] w9 w10 := (Tch.grown hg10).more (by simp)
        have hr8 : Rd w10 A8 (vs sl) := by
          rcases HR9.out with h1 | ⟨b, o, rfl, h4⟩
          · exact .inl h1
          · refine Rd.tch (.inr ⟨b, o, rfl, h4⟩) hT10 ?_
            have hb : b < R := HA8.out b (by simp)
            simp; omega
        have HR10 := Lib.hid hr8
        have HQ10 := Lib.hid (HQ9.out.tch hT10 (by have := HQL.out; have := HRS.out; simp; omega))
        have HS10 : Hid (R < w10.heap.size) := Lib.hid (Nat.lt_of_lt_of_le HRS.out.1 hg10.size)
        have i5 : (h : Int) ≤ M := by have := HPM.out; omega
        have i6 : ¬ M = h := by have := HPM.out; omega
        have i7 : ¬ (M : Int) < h := by have := HPM.out; omega
        clear hz hO10 hg10 hT10 hr8 HO9 HR9 HQ9 HB9 HRH9
        go_wp2_with (with_reducible refine at_copyC ?_)
        refine held_copy_any rfl (.tmp 104) (.tmp 105) 51 51 rfl R 5 Tryd.underlying51 (by kernel_rfl) (k := h) (p := h) (m := P) (n' := M - h) (by omega) rfl rfl HO10.out (ys := vs sl) (by rw [vs_length, HAL.out, HPL.out.1]; show p + 16 = Nat.min P (M - h); rw [HPM.out.1, show M - h = P by have := HPM.out; omega]; exact (Nat.min_self _).symm) (by rw [vs_length, HAL.out, HPL.out.1]; have := HPM.out; omega) HR10.out (vs_one _) ?_
        intro w11 hO11 hg11
        have hz : (vs hd ++ List.replicate P (Value.int .u8 0)).take h ++ (vs sl ++ (vs hd ++ List.replicate P (Value.int .u8 0)).drop (h + (vs sl).length)) = vs hd ++ vs sl := by
          rw [List.take_left' (by rw [vs_length, HPL.out.2.2]), List.drop_of_length_le (by rw [List.length_append, List.length_replicate, vs_length, vs_length, HPL.out.2.2, HAL.out, HPL.out.1, HPM.out.1]; exact Nat.le_refl _), List.append_nil]
        rw [hz] at hO11
        have HO11 : Hid (Own w11.drew R 1 (some ⟨R, 0, none⟩) M M (vs hd ++ vs sl)) := Lib.hid hO11
        have HB11 : Hid (Below wc.heap.size wc w11.drew) := Lib.hid (below_of_grown HB10.out hg11 (by have := HS10.out; have := HRS.out; omega) HRS.out.2).drew
        have HS11 : Hid (R < w11.drew.heap.size) := Lib.hid (Nat.lt_of_lt_of_le HS10.out hg11.size)
        obtain ⟨e', he'⟩ : ∃ e, 11 + n = e := ⟨_, rfl⟩
        have HE' : Hid (e' + 2 = h) := Lib.hid (by have := HM.out.1; omega)
        have HPU := Lib.hid (put16_any R R 0 M M e' e' (M - e') (M - e') (vs hd ++ vs sl) P w11.drew HO11.out (by omega) (by have := HE'.out; have := HPM.out; omega) (by have := HE'.out; have := HPM.out; omega))
        have c1 : (h : Int) - 2 = (e' : Int) := by have := HE'.out; omega
        have c2 : IntKind.u16.wrap (P : Int) = (P : Int) := by rw [IntKind.wrap_u16]; have := HPM.out.1; have := HPL.out.2.1; omega
        have c4 : (e' : Int) ≤ M := by have := HE'.out; have := HPM.out; omega
        have c5 : ¬ M = e' := by have := HE'.out; have := HPM.out; omega
        have c6 : ¬ (M : Int) < e' := by have := HE'.out; have := HPM.out; omega
        have c3 : IntKind.i64.wrap (e' : Int) = (e' : Int) := i64_nat e' (by have := HE'.out; have := HPM.out; have := HMB.out; omega)
        clear hz hO11 hg11 HO10 HR10 HQ10 HB10 HS10 he' i5 i6 i7 i1 i2 i3 i4
        go_wp2_with fail
        go_region_held_law (fun _ => True) (exact trivial) (first
          | (go_at_call 53; with_reducible refine (HSZ.out _ HB11.out).mono ?_; rintro e w12 ⟨rfl, rfl⟩)
          | (go_at_call 56; with_reducible refine HPU.out.mono ?_; rintro e w12 ⟨rfl, hO12, hg12⟩))
        all_goals
          have hpv := put_vs hd sl e' P (by rw [HPL.out.2.2]; have := HE'.out; omega)
          rw [hpv] at hO12
          have hlen : ((hd.set e' (UInt8.ofNat (P / 256))).set (e' + 1) (UInt8.ofNat P)).length = h := by rw [List.length_set, List.length_set, HPL.out.2.2]
          obtain ⟨h', hh'⟩ : ∃ x, (hd.set e' (UInt8.ofNat (P / 256))).set (e' + 1) (UInt8.ofNat P) = x := ⟨_, rfl⟩
          rw [hh'] at hO12 hlen
          have HF := Lib.hid (And.intro hlen (And.intro hO12.rd (below_of_grown HB11.out hg12 (by have := HS11.out; have := HRS.out; omega) HRS.out.2)))
          clear hpv hO12 hg12 hlen hh' c1 c2 c3 c4 c5 c6
          go_wp2_with fail
          go_ret2
          have f1 := HF.out.1
          have f2 : h + (p + 16) = M := by rw [HPM.out.1]; exact HPM.out.2
          have f4 : Rd w12 (some ⟨R, 0, none⟩) (vs (h' ++ aSeal key (chNonce iv ep sq) plain (acid 254 253 ep sq cid p) 16)) := by rw [HSL.out]; exact HF.out.2.1
          have f5 := HF.out.2.2
          first | exact ⟨_, _, _, h', rfl, f1, f2, Nat.le_refl _, f4, f5⟩ | exact ⟨some ⟨R, 0, none⟩, M, M, h', rfl, f1, f2, Nat.le_refl _, f4, f5⟩ | exact ⟨h', f1, f2, f4, f5⟩
end Go.Proofs.YtpedkkmoplbdhaaDoor
