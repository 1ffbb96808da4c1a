/- Walks: a record that is sealed with an explicit nonce is opened, in the thin package. -/
import Derived.Test.YtpedkkmoplbdhaaDoorAoE
import Derived.Test.YtpedkkmoplbdhaaDoorAoH
import Derived.Test.YtpedkkmoplbdhaaDoorRec
namespace Go.Proofs.YtpedkkmoplbdhaaDoor
open Go.RowKit Go.Cv
set_option maxRecDepth 100000
set_option linter.unusedVariables false
set_option maxHeartbeats 1000000 in
theorem implAeOpen (key iv body : List UInt8) (ct : UInt8) (T ep sq cl : Nat) (t1 t7 : TypeId) (v1 v7 : Value) (hk : key.length ≤ 2000) (hiv : iv.length = 4) (hb : body.length ≤ 3000) (h1 : 1 ≤ T) (h2 : T ≤ 16)
    (n20 : ((ct.toNat : Int) == 20) = false) (n20' : ¬ ct.toNat = 20) (n25 : ((ct.toNat : Int) == 25) = false) (n25' : ¬ ct.toNat = 25) (hep : ep < 65536) (hsq : sq < 281474976710656) (w : World)
    (v0 : w.cell? ⟨9, 0, none⟩ = some (.int .u8 254) ∧ w.cell? ⟨9, 1, none⟩ = some (.int .u8 255)) (v2 : w.cell? ⟨10, 0, none⟩ = some (.int .u8 254) ∧ w.cell? ⟨10, 1, none⟩ = some (.int .u8 253)) (e1 : w.cell? ⟨1, 0, none⟩ = some (.iface t1 v1)) (e7 : w.cell? ⟨7, 0, none⟩ = some (.iface t7 v7)) :
    Calls Tryd.prog 18 #[.string (S key), .string (S iv), .int .i64 (T : Nat), .agg (rwRow ct 254 253 ep sq cl []), .string (S body)] w fun e w' => e = .returned (.tuple #[.string (S ((aRec key iv body ct ep sq T).getD [])), .bool (aRec key iv body ct ep sq T).isSome]) ∧ Below w.heap.size w w' := by
  have HRE := Lib.hid (fun W => record_hi ct 254 253 ep sq cl 0 [] body rfl (by omega) (by omega) (decide_eq_false (by omega)) W)
  have HNA : Hid (∀ W, Calls Tryd.prog 39 #[.string (S key), .string (S iv), .int .i64 (T : Nat)] W fun e w' => ∃ g A B c d, e = .returned (.agg #[.pointer (some ⟨g, 0, none⟩)]) ∧ Blk w' g 166 (aeRow key T A B 4 c d) ∧ Rd w' A (vs iv) ∧ Rd w' B (vs iv) ∧ (4 ≤ c ∧ 4 ≤ d) ∧ Below W.heap.size W w') := Lib.hid (fun W => newAe key iv T 4 hiv (by omega) W)
  have HDE := Lib.hid (fun g Ai Bi ci di (hdi : 4 ≤ di) ra c ab m c1 B (hm : 13 + body.length = m) (hmc : m ≤ c1) W hg hri ho v0 v2 e1 e7 => aeDec g key iv body ct T Ai Bi ci di ep sq cl ra c ab m c1 B t1 t7 v1 v7 hk hiv hdi hb hm hmc h1 h2 n20 n20' n25 n25' hep hsq W hg hri ho v0 v2 e1 e7)
  have HBN := Lib.hid behindNo
  have HBA : Hid (∀ (ra c : Nat) (A : Option Addr) (cN : Nat) (hd sl : List UInt8) (hl : hd.length = 13) (hlt : 13 < cN) (hc : 13 + sl.length ≤ cN) (W : World) (hr : Rd W A (vs (hd ++ sl))), Calls Tryd.prog 27 #[.agg (hwRow ct 254 253 ep sq cl (some ⟨ra, 0, none⟩) 0 c), .slice A (13 + sl.length) cN, .nilIface] W fun e w' => e = .returned (.tuple #[.string (S sl), .bool true]) ∧ Below W.heap.size W w') := Lib.hid (fun ra c A cN hd sl hl hlt hc W hr => by
    obtain ⟨b, o, rfl⟩ := hr.addr (by intro e; have h1 := congrArg List.length e; rw [List.length_append, hl, List.length_nil] at h1; omega)
    exact behindAll ct ep sq cl 0 ra c b o (13 + sl.length) cN 13 hd sl (by omega) rfl hl rfl hlt hc W hr)
  have hlh : (hdOut ct 254 253 ep sq cl []).length = 13 := by rw [hdOut_length]; rfl
  have HV := Lib.hid (And.intro v0 (And.intro v2 (And.intro e1 e7)))
  have HLH := Lib.hid hlh
  generalize hcs : rwRow ct 254 253 ep sq cl [] = cs at HRE ⊢
  have hi : (Tryd.prog.info? 25).map (·.size) = some cs.size := by rw [← hcs]; exact rwInfo
  clear hcs hk hiv hb h1 h2 n20 n20' n25 n25' hep hsq v0 v2 e1 e7 hlh
  go_enter Tryd.func18, Tryd.ntmps18
  have hg := Blk.new w 25 cs
  have hb0 := below_alloc w (.cells cs 25)
  go_wp2_with (with_reducible refine Held.load 25 ?_)
  refine held_load_row hg Tryd.underlying25 hi rfl ?_
  clear hi hg
  generalize (World.alloc w _) = w0 at *
  have HB0 := Lib.hid hb0
  clear hb0
  go_wp2_with fail
  refine (HRE.out w0).mono ?_
  rintro e w1 ⟨ra, c, A1, m, c1, rfl, hl1, hr1, ho1, hc1, hb1, hh1⟩
  have hm1 : 13 + body.length = m := by rw [← hl1, List.length_append, HLH.out]
  obtain ⟨ab, rfl, hab⟩ : ∃ ab, A1 = some ⟨ab, 0, none⟩ ∧ w0.heap.size ≤ ab := by
    rcases hh1 with h | h
    · obtain ⟨b, o, h2⟩ := ho1.rd.addr (by intro e; have h1 := congrArg List.length e; rw [List.length_append, HLH.out, List.length_nil] at h1; omega)
      rw [h] at h2; cases h2
    · exact h
  have habl : ab < w1.heap.size := by
    obtain ⟨v, _, hc, _⟩ := ho1.at_ 0 (by omega)
    exact block_lt hc
  have HM1 := Lib.hid (And.intro hm1 hc1)
  have HAB := Lib.hid (And.intro hab habl)
  have HO1 := Lib.hid ho1
  have HB1 := Lib.hid (below_two HB0.out hb1)
  clear hl1 hr1 ho1 hc1 hb1 hm1 hh1 hab habl HRE
  go_wp2_with (with_reducible refine Held.store 53 ?_)
  refine held_store_new (cells := hwRow ct 254 253 ep sq cl (some ⟨ra, 0, none⟩) 0 c) hwInfo rfl rfl rfl (by simp [hwRow, Value.oneCell']) fun w2 hk hb2 hsz2 => ?_
  have HK2 := Lib.hid hk
  have HB2 := Lib.hid (below_two HB1.out hb2)
  have HO2 := Lib.hid (HO1.out.keep hb2)
  obtain ⟨y, hy⟩ : ∃ y, w1.heap.size = y := ⟨_, rfl⟩
  rw [hy] at HK2 HAB ⊢
  clear hk hb2 hsz2 HB1 HO1 hy
  go_wp2_with fail
  have hwab : w.heap.size ≤ ab := Nat.le_trans HB0.out.size HAB.out.1
  have HWA := Lib.hid hwab
  have HX : Hid (∀ w', Tch [ab] w2 w' → w'.cell? ⟨y, 0, none⟩ = some (.int .u8 ct.toNat) ∧ w'.cell? ⟨y, 1, none⟩ = some (.int .u16 (cl : Int)) ∧ w'.cell? ⟨y, 2, none⟩ = some (.int .u8 254) ∧ w'.cell? ⟨y, 3, none⟩ = some (.int .u8 253) ∧ w'.cell? ⟨y, 4, none⟩ = some (.int .u16 (ep : Int)) ∧ w'.cell? ⟨y, 5, none⟩ = some (.int .u64 (sq : Int)) ∧ w'.cell? ⟨y, 6, none⟩ = some (.slice (some ⟨ra, 0, none⟩) 0 c)) := Lib.hid (fun w' hb => hdc (HK2.out.tch hb (by have := HAB.out.2; simp; omega)))
  have HZZ : Hid (∀ (g : Nat) (Ai Bi : Option Addr) (ci di : Nat) (W : World), Below w2.heap.size w2 W → Blk W g 166 (aeRow key T Ai Bi 4 ci di) → Rd W Bi (vs iv) → 4 ≤ di → Calls Tryd.prog 40 #[.agg #[.pointer (some ⟨g, 0, none⟩)], .agg #[.int .u8 (ct.toNat : Int), .int .u16 (cl : Int), .int .u8 254, .int .u8 253, .int .u16 (ep : Int), .int .u64 (sq : Int), .slice (some ⟨ra, 0, none⟩) 0 c], .slice (some ⟨ab, 0, none⟩) m c1] W fun e w' => DecPost W ab (aRec key iv body ct ep sq T) e w') := Lib.hid (fun g Ai Bi ci di W hW hg hri hdi =>
    zzDec g ab m c1 (hwRow ct 254 253 ep sq cl (some ⟨ra, 0, none⟩) 0 c) hwInfo _ W (fun X hX => HDE.out g Ai Bi ci di hdi ra c ab m c1 w0.heap.size HM1.out.1 HM1.out.2 X (hg.keep hX) (hri.keep hX) (HO2.out.keep (below_two hW hX))
      ⟨keep_of_below (below_two (below_two HB2.out hW) hX) _ _ HV.out.1.1, keep_of_below (below_two (below_two HB2.out hW) hX) _ _ HV.out.1.2⟩ ⟨keep_of_below (below_two (below_two HB2.out hW) hX) _ _ HV.out.2.1.1, keep_of_below (below_two (below_two HB2.out hW) hX) _ _ HV.out.2.1.2⟩
      (keep_of_below (below_two (below_two HB2.out hW) hX) _ _ HV.out.2.2.1) (keep_of_below (below_two (below_two HB2.out hW) hX) _ _ HV.out.2.2.2)))
  cases hr : aRec key iv body ct ep sq T with
  | none =>
    rw [hr] at HZZ
    (go_region_held_law (fun w' => w'.cell? ⟨y, 0, none⟩ = some (.int .u8 ct.toNat) ∧ w'.cell? ⟨y, 1, none⟩ = some (.int .u16 (cl : Int)) ∧ w'.cell? ⟨y, 2, none⟩ = some (.int .u8 254) ∧ w'.cell? ⟨y, 3, none⟩ = some (.int .u8 253) ∧ w'.cell? ⟨y, 4, none⟩ = some (.int .u16 (ep : Int)) ∧ w'.cell? ⟨y, 5, none⟩ = some (.int .u64 (sq : Int)) ∧ w'.cell? ⟨y, 6, none⟩ = some (.slice (some ⟨ra, 0, none⟩) 0 c)) ((refine HX.out _ ?_; (repeat (first | exact Tch.refl _ _ | refine Tch.trans ?_ ht6 | refine Tch.trans ?_ (Tch.below hb5 _) | refine Tch.trans ?_ (Tch.below (below_drew _) _))); done)) (first
      | (go_at_call 39; with_reducible refine (HNA.out _).mono ?_; rintro e w5 ⟨g, Ai, Bi, ci, di, rfl, hk5, _, hi5, hc5, hb5⟩)
      | (go_at_call 40; (with_reducible refine (HZZ.out g Ai Bi ci di _ (below_two (below_drew w2) hb5) hk5 hi5 hc5.2).mono ?_); rintro e w6 ⟨_, hn6, ht6⟩; obtain ⟨t6, v6, rfl⟩ := hn6 rfl)))
    all_goals
      have HZ6 : Hid (Tch [ab] w2 w6) := Lib.hid ((Tch.below (below_two (below_drew w2) hb5) _).trans ht6)
      have HK6 := Lib.hid (HK2.out.tch HZ6.out (by have := HAB.out.2; simp; omega))
      clear ht6 hk5 hi5 hc5 hb5 hn6
      go_wp2_with (with_reducible refine Held.load 53 ?_)
      refine held_load_row HK6.out Tryd.underlying53 hwInfo rfl ?_
      go_wp2_with fail
      refine (HBN.out _ _ _ _ _ _ w6).mono ?_
      rintro e w7 ⟨rfl, hb7⟩
      have HF : Hid (Below w.heap.size w w7) := Lib.hid (below_two (below_tchA HB2.out HZ6.out (fun k hk => by simp at hk; subst hk; exact HWA.out) HB2.out.size) hb7)
      clear hb7
      go_wp2_with fail
      first | go_ret2 | go_ret
      have h9 := HF.out
      simp only [hr, Option.getD_none, Option.isSome_none]
      first | exact ⟨rfl, h9⟩ | exact ⟨⟨rfl, rfl⟩, h9⟩ | exact h9
  | some p =>
    rw [hr] at HZZ
    (go_region_held_law (fun w' => w'.cell? ⟨y, 0, none⟩ = some (.int .u8 ct.toNat) ∧ w'.cell? ⟨y, 1, none⟩ = some (.int .u16 (cl : Int)) ∧ w'.cell? ⟨y, 2, none⟩ = some (.int .u8 254) ∧ w'.cell? ⟨y, 3, none⟩ = some (.int .u8 253) ∧ w'.cell? ⟨y, 4, none⟩ = some (.int .u16 (ep : Int)) ∧ w'.cell? ⟨y, 5, none⟩ = some (.int .u64 (sq : Int)) ∧ w'.cell? ⟨y, 6, none⟩ = some (.slice (some ⟨ra, 0, none⟩) 0 c)) ((refine HX.out _ ?_; (repeat (first | exact Tch.refl _ _ | refine Tch.trans ?_ ht6 | refine Tch.trans ?_ (Tch.below hb5 _) | refine Tch.trans ?_ (Tch.below (below_drew _) _))); done)) (first
      | (go_at_call 39; with_reducible refine (HNA.out _).mono ?_; rintro e w5 ⟨g, Ai, Bi, ci, di, rfl, hk5, _, hi5, hc5, hb5⟩)
      | (go_at_call 40; (with_reducible refine (HZZ.out g Ai Bi ci di _ (below_two (below_drew w2) hb5) hk5 hi5 hc5.2).mono ?_); rintro e w6 ⟨hs6, _, ht6⟩; obtain ⟨A6, c6, h6, rfl, hl6, hlt6, hle6, hr6⟩ := hs6 p rfl)))
    all_goals
      have HZ6 : Hid (Tch [ab] w2 w6) := Lib.hid ((Tch.below (below_two (below_drew w2) hb5) _).trans ht6)
      have HK6 := Lib.hid (HK2.out.tch HZ6.out (by have := HAB.out.2; simp; omega))
      have HB6 := Lib.hid (HBA.out ra c A6 c6 h6 p hl6 hlt6 hle6 w6 hr6)
      clear ht6 hk5 hi5 hc5 hb5 hs6 hl6 hlt6 hle6 hr6
      go_wp2_with (with_reducible refine Held.load 53 ?_)
      refine held_load_row HK6.out Tryd.underlying53 hwInfo rfl ?_
      go_wp2_with fail
      refine HB6.out.mono ?_
      rintro e w7 ⟨rfl, hb7⟩
      have HF : Hid (Below w.heap.size w w7) := Lib.hid (below_two (below_tchA HB2.out HZ6.out (fun k hk => by simp at hk; subst hk; exact HWA.out) HB2.out.size) hb7)
      clear hb7
      go_wp2_with fail
      first | go_ret2 | go_ret
      have h9 := HF.out
      simp only [hr, Option.getD_some, Option.isSome_some]
      first | exact ⟨rfl, h9⟩ | exact ⟨⟨rfl, rfl⟩, h9⟩ | exact h9
end Go.Proofs.YtpedkkmoplbdhaaDoor
