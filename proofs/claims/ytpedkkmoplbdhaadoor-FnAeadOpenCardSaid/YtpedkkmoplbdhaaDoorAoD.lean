/- Walks: the library opens a record that is sealed with an explicit nonce. -/
import Derived.Test.YtpedkkmoplbdhaaDoorAoI
import Derived.Test.YtpedkkmoplbdhaaDoorBase
import Derived.Test.YtpedkkmoplbdhaaDoorAoN
import Derived.Test.YtpedkkmoplbdhaaDoorAoG
import Derived.Test.YtpedkkmoplbdhaaDoorHdwU
import Derived.Test.YtpedkkmoplbdhaaDoorChE
import Derived.Deep.RegionHeldLaw
import Derived.Deep.RegionLaw
import Derived.Deep.DeepCutAuto
import Derived.BigQuiet
import Derived.Outline
namespace Go.Proofs.YtpedkkmoplbdhaaDoor
open Go.RowKit Go.Cv
set_option maxRecDepth 100000
set_option linter.unusedVariables false
theorem hr1_hw (ct : UInt8) (ep sq cl c : Nat) (A : Option Addr) : hr1g ct.toNat ep sq cl A 0 c = hwRow ct 254 253 ep sq cl A 0 c := rfl
theorem aec {W : World} {g T n c d : Nat} {key : List UInt8} {A B : Option Addr} (h : Blk W g 166 (aeRow key T A B n c d)) :
    W.cell? ⟨g, 1, none⟩ = some (.iface 101 (.agg #[.string (S key), .int .i64 12, .int .i64 (T : Nat)])) ∧ W.cell? ⟨g, 3, none⟩ = some (.slice B n d) ∧ W.cell? ⟨g, 4, none⟩ = some (.int .i64 12) ∧ W.cell? ⟨g, 5, none⟩ = some (.int .i64 (T : Nat)) :=
  ⟨(h.cell 1).trans rfl, (h.cell 3).trans rfl, (h.cell 4).trans rfl, (h.cell 5).trans rfl⟩
theorem m_open (key : List UInt8) (N T : Nat) (W : World) : (method 329 101 (.agg #[.string (S key), .int .i64 (N : Nat), .int .i64 (T : Nat)]) "Open").run Tryd.prog W = .ok (134, .agg #[.string (S key), .int .i64 (N : Nat), .int .i64 (T : Nat)]) W := by kernel_rfl
set_option maxHeartbeats 400000 in
theorem aeDec8 (g : Nat) (key iv body : List UInt8) (ct : UInt8) (T : Nat) (Ai Bi : Option Addr) (ci di ep sq cl ra c ab m c1 L m' B : Nat) (t7 : TypeId) (v7 : Value) (hk : key.length ≤ 2000) (hiv : iv.length = 4) (hdi : 4 ≤ di) (hL : body.length = 8 + L) (hL0 : 0 < L) (hLb : L ≤ 3000) (hm : 21 + L = m) (hmc : m ≤ c1) (h1 : 1 ≤ T) (h2 : T ≤ 16)
    (n20 : ((ct.toNat : Int) == 20) = false) (n20' : ¬ ct.toNat = 20) (n25 : ((ct.toNat : Int) == 25) = false) (n25' : ¬ ct.toNat = 25) (hep : ep < 65536) (hsq : sq < 281474976710656) (h16 : IntKind.u16.wrap ((L : Int) - (T : Int)) = (m' : Int)) (w : World)
    (hg : Blk w g 166 (aeRow key T Ai Bi 4 ci di)) (hri : Rd w Bi (vs iv)) (ho : Own w B 1 (some ⟨ab, 0, none⟩) m c1 (vs (hdOut ct 254 253 ep sq cl [] ++ body)))
    (v0 : w.cell? ⟨9, 0, none⟩ = some (.int .u8 254) ∧ w.cell? ⟨9, 1, none⟩ = some (.int .u8 255)) (v2 : w.cell? ⟨10, 0, none⟩ = some (.int .u8 254) ∧ w.cell? ⟨10, 1, none⟩ = some (.int .u8 253)) (e7 : w.cell? ⟨7, 0, none⟩ = some (.iface t7 v7)) :
    Calls Tryd.prog 69 #[.pointer (some ⟨g, 0, none⟩), .agg (hwRow ct 254 253 ep sq cl (some ⟨ra, 0, none⟩) 0 c), .slice (some ⟨ab, 0, none⟩) m c1] w fun e w' =>
      (∀ p, aOpen key (iv ++ body.take 8) (body.drop 8) (add13 ct 254 253 ep sq m') T = some p → ∃ A' c' h', e = .returned (.tuple #[.slice A' (13 + p.length) c', .nilIface]) ∧ List.length h' = 13 ∧ 13 < c' ∧ 13 + p.length ≤ c' ∧ Rd w' A' (vs (h' ++ p))) ∧
      (aOpen key (iv ++ body.take 8) (body.drop 8) (add13 ct 254 253 ep sq m') T = none → e = .returned (.tuple #[.slice none 0 0, .iface t7 v7])) ∧ Tch [ab] w w' := by
  have hlh : (hdOut ct 254 253 ep sq cl []).length = 13 := by rw [hdOut_length]; rfl
  have hbab : ab < w.heap.size := by
    obtain ⟨v, _, hc, _⟩ := ho.at_ 0 (by omega)
    exact block_lt hc
  have HBA : Hid (B ≤ ab) := Lib.hid (by
    obtain ⟨_, _, _, h0 | ⟨b', o', hA, hB', _⟩⟩ := ho
    · omega
    · injection hA with hA; injection hA with hA; omega)
  obtain ⟨q, hq⟩ : ∃ q, w.heap.size = q := ⟨_, rfl⟩
  obtain ⟨e1, e2, he12, hee⟩ := be2_two ep hep
  obtain ⟨s1, s2, s3, s4, s5, s6, hs6, hss⟩ := be6_six sq hsq
  have hl : hdOut ct 254 253 ep sq cl [] ++ body = ct :: 254 :: 253 :: e1 :: e2 :: s1 :: s2 :: s3 :: s4 :: s5 :: s6 :: ([] ++ (be 2 cl ++ body)) := by
    rw [hdOut, he12, hs6]; rfl
  have b0 : 9 < q := by rw [← hq]; exact block_lt v0.1
  have b2 : 10 < q := by rw [← hq]; exact block_lt v2.1
  have HUN := Lib.hid (fun (W : World) hk hin v0 v2 => unmHdG_plain (.int .u8 ct.toNat) (.int .u8 254) (.int .u8 253) (.int .u16 (ep : Int)) (.int .u64 (sq : Int)) cl q ab 0 c1 m ra c (hdOut ct 254 253 ep sq cl [] ++ body) ct e1 e2 s1 s2 s3 s4 s5 s6 [] ep sq n25 n25' hee hss rfl (by omega) (by omega) hmc W hk hin (by omega) v0 v2 (by omega) (by omega))
  have HSZ : Hid (∀ (W : World), W.cell? ⟨q, 6, none⟩ = some (.slice (some ⟨ra, 0, none⟩) 0 c) → Calls Tryd.prog 53 #[.pointer (some ⟨q, 0, none⟩)] W fun e w' => e = .returned (.int .i64 13) ∧ W = w') := Lib.hid (fun W h6 => hdrSize q 0 c ra W h6 (by omega))
  have HHL := Lib.hid (And.intro hlh hl)
  have HG := Lib.hid (And.intro hg (And.intro hri ho))
  have HV := Lib.hid (And.intro v0 (And.intro v2 e7))
  have HQ := Lib.hid (And.intro hq hbab)
  have HN := Lib.hid (And.intro hk (And.intro hiv (And.intro hL (And.intro hL0 (And.intro hLb (And.intro hm hmc))))))
  have HT := Lib.hid (And.intro h1 h2)
  have HW := Lib.hid (And.intro hep (And.intro hsq h16))
  have d4 : (4 : Int) ≤ di := by omega
  clear hk hiv hdi hL hL0 hLb hm hmc h1 h2 hep hsq h16 hg hri ho v0 v2 e7 hlh hq hbab hl b0 b2 he12 hs6 hee hss
  go_enter Tryd.func69, Tryd.ntmps69
  have hb1 := below_alloc w (.cells (hwRow ct 254 253 ep sq cl (some ⟨ra, 0, none⟩) 0 c) 53)
  have hk1 := Blk.new w 53 (hwRow ct 254 253 ep sq cl (some ⟨ra, 0, none⟩) 0 c)
  go_wp2_with fail
  rw [HQ.out.1] at hk1 hb1 ⊢
  generalize (World.alloc w _) = w1 at *
  have HB1 := Lib.hid hb1
  have HK1 := Lib.hid hk1
  clear hb1 hk1
  have hbw : Below w.heap.size w w1 := by rw [HQ.out.1]; exact HB1.out
  have hin1 := hdIn_of HHL.out.2 (HG.out.2.2.rd.keep hbw)
  have u0 := keep_of_below hbw _ _ HV.out.1.1
  have u1 := keep_of_below hbw _ _ HV.out.1.2
  have u2 := keep_of_below hbw _ _ HV.out.2.1.1
  have u3 := keep_of_below hbw _ _ HV.out.2.1.2
  refine (HUN.out w1 HK1.out hin1 ⟨u0, u1⟩ ⟨u2, u3⟩).mono ?_
  clear hbw hin1 u0 u1 u2 u3
  rintro e w2 ⟨rfl, hk2, hg2⟩
  have hk2 : Blk w2 q 53 (hwRow ct 254 253 ep sq cl (some ⟨ra, 0, none⟩) 0 c) := hk2
  have HK2 := Lib.hid hk2
  have HB2 := Lib.hid (below_of_grown HB1.out hg2 (Nat.le_of_lt HK1.out.lt) (Nat.le_refl _))
  clear hk2 hg2 HUN HK1 HB1
  have i1 : decide ((m : Int) ≤ 21) = false := decide_eq_false (by have := HN.out; omega)
  have i1' : ¬ (m : Int) ≤ 21 := by have := HN.out; omega
  have k0 := (hdc HK2.out).1
  have k6 := (hdc HK2.out).2.2.2.2.2.2
  go_wp2_with fail
  refine (HSZ.out w2 k6).mono ?_
  rintro e w3 ⟨rfl, rfl⟩
  have g4 := (aec (HG.out.1.keep (by rw [HQ.out.1]; exact HB2.out))).2.2.1
  go_wp2_with fail
  refine upon_make 51 5 (.int .u8 0) 1 Tryd.underlying51 t_u8info rfl 12 12 rfl rfl (Nat.le_refl _) (by omega) (by simp only [maxLen]; omega) ?_
  intro w4 hO4 hb4 hs4
  obtain ⟨N, hN⟩ : ∃ N, w2.heap.size = N := ⟨_, rfl⟩
  rw [hN] at hO4 hb4 hs4 ⊢
  have HO4 : Hid (Own w4.drew N 1 (some ⟨N, 0, none⟩) 12 12 (List.replicate 12 (Value.int .u8 0))) := hO4
  have HB4 : Hid (Below q w w4.drew) := Lib.hid ((HB2.out.trans (hb4.mono (by rw [← hN]; exact Nat.le_of_lt HK2.out.lt))).drew)
  have HK4 : Hid (Blk w4.drew q 53 (hwRow ct 254 253 ep sq cl (some ⟨ra, 0, none⟩) 0 c)) := Lib.hid (HK2.out.keep (by rw [hN]; exact hb4.drew))
  have HNQ : Hid (q < N ∧ N < w4.drew.heap.size) := Lib.hid ⟨by rw [← hN]; exact HK2.out.lt, by show N < w4.heap.size; omega⟩
  have g3 := (aec (HG.out.1.keep (by rw [HQ.out.1]; exact HB4.out))).2.1
  clear hO4 hb4 hs4 hN HK2 HB2 k0 k6 g4
  go_wp2_with fail
  refine wp_region_still_tail 7 (by kernel_rfl) (by kernel_rfl) ?_
  simp only [List.take_succ_cons, List.take_zero, List.drop_succ_cons, List.drop_zero]
  change wpStill _ _ (World.drew w4) (fun a => wpList _ _ _ _ a (World.drew w4)) _ _
  generalize World.drew w4 = wd at *
  repeat still_step
  refine wpStill_nil ?_
  refine held_copy_any rfl (.tmp 36) (.tmp 41) 51 51 rfl N 5 Tryd.underlying51 (by kernel_rfl) (k := 0) (p := 0) (m := 4) (n' := 4) (by omega) rfl rfl HO4.out (ys := vs iv) (by rw [vs_length, HN.out.2.1]; rfl) (by rw [vs_length, HN.out.2.1]; omega) (HG.out.2.1.keep (by rw [HQ.out.1]; exact HB4.out)) (vs_one _) ?_
  intro w5 hO5 hg5
  have HO5 : Hid (Own w5.drew N 1 (some ⟨N, 0, none⟩) 12 12 (vs (iv ++ List.replicate 8 0))) := Lib.hid (by
    rw [List.take_zero, List.nil_append, vs_length, HN.out.2.1, List.drop_replicate] at hO5
    rw [vs_append, vs_rep]
    exact hO5)
  have HB5 : Hid (Below q w w5.drew) := Lib.hid (below_of_grown HB4.out hg5 (by have := HNQ.out; omega) (by have := HNQ.out; omega)).drew
  have HK5 : Hid (Blk w5.drew q 53 (hwRow ct 254 253 ep sq cl (some ⟨ra, 0, none⟩) 0 c)) := Lib.hid (HK4.out.tch ((Tch.grown hg5).trans ((Tch.drew w5).more (by simp))) (by have := HNQ.out; simp; omega))
  have HS5 : Hid (N < w5.drew.heap.size) := Lib.hid (Nat.lt_of_lt_of_le HNQ.out.2 hg5.size)
  clear hO5 hg5 g3 HO4 HB4 HK4
  go_wp2_with fail
  have k6 := (hdc HK5.out).2.2.2.2.2.2
  have HR5 : Hid (Rd w5.drew (some ⟨ab, 13, none⟩) (vs (body.take 8))) := Lib.hid (by
    have h1 := (HG.out.2.2.rd.keep (w' := w5.drew) (by rw [HQ.out.1]; exact HB5.out))
    rw [vs_append] at h1
    have h2 := Rd.drop' (xs := vs (hdOut ct 254 253 ep sq cl [])) (ys := vs body) h1
    rw [vs_length, HHL.out.1] at h2
    rw [vs_take]
    exact h2.take 8)
  have i2 : (21 : Int) ≤ c1 := by have := HN.out; omega
  have i3 : ¬ c1 = 13 := by have := HN.out; omega
  have iw : IntKind.i64.wrap 21 = 21 := by decide
  go_region_law (first
    | (go_simp; go_at_call 53; with_reducible refine (HSZ.out _ k6).mono ?_; rintro e w6 ⟨rfl, rfl⟩)
    | (refine step_copy rfl (.tmp 44) (.tmp 49) 51 51 rfl N 5 Tryd.underlying51 (by kernel_rfl) (k := 4) (p := 4) (m := 8) (n' := 8) (by omega) rfl rfl HO5.out (ys := vs (body.take 8)) (by rw [vs_length, List.length_take, HN.out.2.2.1]; exact Nat.min_eq_left (by omega)) (by rw [vs_length, List.length_take]; omega) (by rw [vs_length, List.length_take, HN.out.2.2.1]; omega) HR5.out (vs_one _) ?_; intro w6 hO6 hg6))
  have l8 : (body.take 8).length = 8 := by rw [List.length_take, HN.out.2.2.1]; exact Nat.min_eq_left (by omega)
  have HO6 : Hid (Own w6 N 1 (some ⟨N, 0, none⟩) 12 12 (vs (iv ++ body.take 8))) := Lib.hid (by
    rw [vs_append iv (List.replicate 8 0), List.take_left' (by rw [vs_length, HN.out.2.1]), List.drop_of_length_le (by rw [List.length_append, vs_length, vs_length, vs_length, HN.out.2.1, List.length_replicate, l8]; omega), List.append_nil, ← vs_append] at hO6
    exact hO6)
  have HB6 : Hid (Below q w w6) := Lib.hid (below_of_grown HB5.out hg6 (by have := HS5.out; have := HNQ.out; omega) (by have := HNQ.out; omega))
  have HK6 : Hid (Blk w6 q 53 (hwRow ct 254 253 ep sq cl (some ⟨ra, 0, none⟩) 0 c)) := Lib.hid (HK5.out.tch (Tch.grown hg6) (by have := HNQ.out; simp; omega))
  clear hO6 hg6 HO5 HB5 HK5 HS5 k6 HR5 i2 i3
  have k6 := (hdc HK6.out).2.2.2.2.2.2
  have k0 := (hdc HK6.out).1
  have g5 := (aec (HG.out.1.keep (by rw [HQ.out.1]; exact HB6.out))).2.2.2
  have i2 : (21 : Int) ≤ m := by have := HN.out; omega
  have i3 : ¬ c1 = 21 := by have := HN.out; omega
  have i4 : (m : Int) ≤ c1 := by have := HN.out; omega
  have i5 : m - 21 = L := by have := HN.out; omega
  have iL : IntKind.i64.wrap ((L : Int) - (T : Int)) = (L : Int) - (T : Int) := by rw [IntKind.wrap_i64]; have := HN.out; have := HT.out; omega
  go_wp2_with fail
  refine (HSZ.out _ k6).mono ?_
  rintro e w7 ⟨rfl, rfl⟩
  go_wp2_with fail
  refine (genA_x q ct 254 253 ep sq cl 0 c m' ((L : Int) - (T : Int)) (some ⟨ra, 0, none⟩) HW.out.2.1 HW.out.2.2 w6 HK6.out).mono ?_
  rintro e w7 ⟨A7, rfl, hr7, hb7⟩
  have HR7 : Hid (Rd w7.drew A7 (vs (add13 ct 254 253 ep sq m'))) := Lib.hid hr7
  have HB7 : Hid (Below w.heap.size w w7.drew) := Lib.hid (by rw [HQ.out.1]; exact (HB6.out.trans (hb7.mono (Nat.le_of_lt HK6.out.lt))).drew)
  have HK7 : Hid (Blk w7.drew q 53 (hwRow ct 254 253 ep sq cl (some ⟨ra, 0, none⟩) 0 c)) := Lib.hid ((HK6.out.keep hb7).keep (below_drew w7))
  have HO7 : Hid (Own w7.drew N 1 (some ⟨N, 0, none⟩) 12 12 (vs (iv ++ body.take 8))) := Lib.hid ((HO6.out.keep hb7).keep (below_drew w7))
  have HM7 : Hid (Own w7.drew B 1 (some ⟨ab, 0, none⟩) m c1 (vs (hdOut ct 254 253 ep sq cl [] ++ body))) := Lib.hid (HG.out.2.2.keep HB7.out)
  have HD7 : Hid (Rd w7.drew (some ⟨ab, 21, none⟩) (vs (body.drop 8))) := Lib.hid (by
    have h1 := HM7.out.rd
    rw [vs_append] at h1
    have h2 := Rd.drop' (xs := vs (hdOut ct 254 253 ep sq cl [])) (ys := vs body) h1
    rw [vs_length, HHL.out.1, ← List.take_append_drop 8 body, vs_append] at h2
    have h3 := Rd.drop' (xs := vs (body.take 8)) (ys := vs (body.drop 8)) h2
    rw [vs_length, l8] at h3
    exact h3)
  have g1 := (aec (HG.out.1.keep HB7.out)).1
  have iz : (0 : Int) ≤ ((c1 - 21 : Nat) : Int) := by omega
  clear hr7 hb7 HB6 HO6 HK6 k0 k6 g5
  go_wp2_with fail
  have hmt : (method 329 101 (.agg #[.string (S key), .int .i64 12, .int .i64 (T : Nat)]) "Open").run Tryd.prog w7.drew = .ok (134, .agg #[.string (S key), .int .i64 12, .int .i64 (T : Nat)]) w7.drew := m_open key 12 T w7.drew
  have hln : (iv ++ body.take 8).length = 12 := by rw [List.length_append, l8, HN.out.2.1]
  have hls : (body.drop 8).length = L := by rw [List.length_drop, HN.out.2.2.1]; omega
  have hla : (add13 ct 254 253 ep sq m').length = 13 := by simp [add13, be_length]
  cases hop : aOpen key (iv ++ body.take 8) (body.drop 8) (add13 ct 254 253 ep sq m') T with
  | none =>
    have HNO : Hid (Calls Tryd.prog 134 #[.agg #[.string (S key), .int .i64 12, .int .i64 (T : Nat)], .slice (some ⟨ab, 21, none⟩) 0 (c1 - 21), .slice (some ⟨N, 0, none⟩) 12 12, .slice (some ⟨ab, 21, none⟩) L (c1 - 21), .slice A7 13 13] w7.drew fun e w' => e = .returned (.tuple #[.slice none 0 0, .iface 207 (.agg #[])]) ∧ Below w7.drew.heap.size w7.drew w') := Lib.hid (aeadOpenNo key (iv ++ body.take 8) (body.drop 8) (add13 ct 254 253 ep sq m') 12 T HT.out.1 (by have := HT.out.2; omega) (by have := HN.out.1; omega) (by omega) (by have := HN.out; omega) (by omega) hop (some ⟨ab, 21, none⟩) (some ⟨N, 0, none⟩) (some ⟨ab, 21, none⟩) A7 12 L 13 (c1 - 21) 12 (c1 - 21) 13 hln hls hla w7.drew HO7.out.rd HD7.out HR7.out)
    go_region_law (first
      | (go_simp; go_at_call 134; with_reducible refine HNO.out.mono ?_; rintro e w8 ⟨rfl, hb8⟩))
    all_goals
      have HB8 := Lib.hid (below_two HB7.out hb8)
      have c7 : w8.cell? ⟨7, 0, none⟩ = some (.iface t7 v7) := keep_of_below HB8.out _ _ HV.out.2.2
      clear hb8 g1 hmt
      go_wp2_with fail
      go_quiet (fail)
      have hz := Lib.hid (Tch.below (below_drewN HB8.out nq) [ab])
      generalize w8.drewN nq = w9 at *
      go_wp2_with fail
      first | go_ret2 | go_ret
      exact ⟨fun p h => (by rw [hop] at h; cases h), fun _ => rfl, hz.out⟩
  | some p =>
    have hlp := aOpen_length hop
    have HYE : Hid (Calls Tryd.prog 134 #[.agg #[.string (S key), .int .i64 12, .int .i64 (T : Nat)], .slice (some ⟨ab, 21, none⟩) 0 (c1 - 21), .slice (some ⟨N, 0, none⟩) 12 12, .slice (some ⟨ab, 21, none⟩) L (c1 - 21), .slice A7 13 13] w7.drew fun e w' => e = .returned (.tuple #[.slice (some ⟨ab, 21, none⟩) p.length (c1 - 21), .nilIface]) ∧ Own w' B 1 (some ⟨ab, 0, none⟩) m c1 ((vs (hdOut ct 254 253 ep sq cl [] ++ body)).take 21 ++ (vs p ++ (vs (hdOut ct 254 253 ep sq cl [] ++ body)).drop (21 + p.length))) ∧ Tch [ab] w7.drew w') := Lib.hid (aeadOpenIn key (iv ++ body.take 8) (body.drop 8) (add13 ct 254 253 ep sq m') p 12 T HT.out.1 (by have := HT.out.2; omega) (by have := HN.out.1; omega) (by omega) (by have := HN.out; omega) (by omega) hop (some ⟨N, 0, none⟩) (some ⟨ab, 21, none⟩) A7 12 L 13 (c1 - 21) 12 (c1 - 21) 13 B ab 21 m c1 _ hln hls hla w7.drew HM7.out (by have := HN.out; omega) (by have := HN.out; omega) HO7.out.rd HD7.out HR7.out)
    go_region_law (first
      | (go_simp; go_at_call 134; with_reducible refine HYE.out.mono ?_; rintro e w8 ⟨rfl, hO8, ht8⟩))
    all_goals
      have HO8 : Hid (Own w8 B 1 (some ⟨ab, 0, none⟩) 13 c1 (vs (hdOut ct 254 253 ep sq cl []))) := Lib.hid (by
        have h1 := hO8.cut 13 (by have := HN.out; omega)
        rw [List.take_append_of_le_length (by rw [List.length_take, vs_length, List.length_append, HHL.out.1]; have := HN.out; omega), List.take_take, vs_append, List.take_left' (by rw [vs_length, HHL.out.1]; rfl)] at h1
        exact h1)
      have HP8 : Hid (Rd w8 (some ⟨ab, 21, none⟩) (vs p)) := Lib.hid (by
        have h2 := Rd.drop' hO8.rd
        rw [List.length_take, vs_length, List.length_append, HHL.out.1, show min 21 (13 + body.length) = 21 by have := HN.out; omega] at h2
        have h3 := h2.take (vs p).length
        rw [List.take_left' rfl] at h3
        exact h3)
      have HT8 := Lib.hid ((Tch.below HB7.out [ab]).trans ht8)
      have hk8 := HK7.out.tch ht8 (by have := HQ.out; simp; omega)
      have k6 := (hdc hk8).2.2.2.2.2.2
      have HLP : Hid (p.length + T = L) := Lib.hid (by omega)
      have j1 : (13 : Int) ≤ c1 := by omega
      clear hO8 ht8 hk8 HK7 HO7 HM7 HD7 HR7 HB7 g1 hmt
      go_wp2_with fail
      refine (HSZ.out _ k6).mono ?_
      rintro e w9 ⟨rfl, rfl⟩
      go_wp2_with (at_builtin; refine Held.on ?_)
      refine held_append2 rfl (.tmp 94) (.tmp 95) 51 51 rfl B 5 (.int .u8 0) 1 1 Tryd.underlying51 (.inl Tryd.underlying51) t_u8info rfl (by omega) (m := p.length) (ys := vs p) rfl rfl HO8.out ⟨by rw [vs_length]; omega, vs_one _, .inl ⟨_, _, rfl, HP8.out⟩⟩ (by have := HLP.out; have := HN.out; omega) (by have := HLP.out; have := HN.out; simp only [maxLen]; omega) (by have h1 := HBA.out; have h2 := HQ.out; have h3 := HT8.out.size; omega) ?_
      intro A9 c9 w9 hO9 hg9 hor9
      have hc9 : c9 = c1 := by
        rcases hor9 with h | ⟨_, h⟩
        · exact h.2
        · have := HLP.out; have := HN.out; omega
      have HF := Lib.hid (And.intro hO9.rd (HT8.out.trans (Tch.grown hg9)))
      clear hO9 hg9 hor9 HO8 HP8 HT8
      subst hc9
      go_wp2_with fail
      first | go_ret2 | go_ret
      refine ⟨fun p' h => ?_, fun h => (by rw [hop] at h; cases h), HF.out.2⟩
      rw [hop] at h
      injection h with h
      subst h
      have hF1 := HF.out.1
      rw [← vs_append] at hF1
      exact ⟨A9, c9, hdOut ct 254 253 ep sq cl [], rfl, HHL.out.1, by have := HN.out; omega, by have := HN.out; have := HLP.out; omega, hF1⟩
end Go.Proofs.YtpedkkmoplbdhaaDoor
