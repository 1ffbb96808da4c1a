/- Walks: the library opens a record that is sealed with an explicit nonce; all lengths. -/
import Derived.Test.YtpedkkmoplbdhaaDoorAoD
import Derived.Test.YtpedkkmoplbdhaaDoorAoP
namespace Go.Proofs.YtpedkkmoplbdhaaDoor
open Go.RowKit Go.Cv
set_option maxRecDepth 100000
set_option linter.unusedVariables false
set_option maxHeartbeats 400000 in
theorem aeDec0 (g : Nat) (body : List UInt8) (ct : UInt8) (ep sq cl ra c ab m c1 L : Nat) (t1 : TypeId) (v1 : Value) (hL : body.length = L) (hLb : L ≤ 8) (hm : 13 + L = m) (hmc : m ≤ c1)
    (n20 : ((ct.toNat : Int) == 20) = false) (n20' : ¬ ct.toNat = 20) (n25 : ((ct.toNat : Int) == 25) = false) (n25' : ¬ ct.toNat = 25) (hep : ep < 65536) (hsq : sq < 281474976710656) (w : World)
    (hri : Rd w (some ⟨ab, 0, none⟩) (vs (hdOut ct 254 253 ep sq cl [] ++ body)))
    (v0 : w.cell? ⟨9, 0, none⟩ = some (.int .u8 254) ∧ w.cell? ⟨9, 1, none⟩ = some (.int .u8 255)) (v2 : w.cell? ⟨10, 0, none⟩ = some (.int .u8 254) ∧ w.cell? ⟨10, 1, none⟩ = some (.int .u8 253)) (e1 : w.cell? ⟨1, 0, none⟩ = some (.iface t1 v1)) :
    Calls Tryd.prog 69 #[.pointer (some ⟨g, 0, none⟩), .agg (hwRow ct 254 253 ep sq cl (some ⟨ra, 0, none⟩) 0 c), .slice (some ⟨ab, 0, none⟩) m c1] w fun e w' =>
      e = .returned (.tuple #[.slice none 0 0, .iface t1 v1]) ∧ Below w.heap.size w w' := by
  have hlh : (hdOut ct 254 253 ep sq cl []).length = 13 := by rw [hdOut_length]; rfl
  have hbab : ab < w.heap.size := by
    rcases hri with h | ⟨b, o, hA, hc⟩
    · have h2 := congrArg List.length h
      rw [vs_length, List.length_append, hlh] at h2
      simp at h2
    · injection hA with hA
      injection hA with hA ho
      subst hA
      exact block_lt (hc 0 _ (vs_get _ 0 (by rw [List.length_append, hlh]; omega)))
  obtain ⟨q, hq⟩ : ∃ q, w.heap.size = q := ⟨_, rfl⟩
  obtain ⟨x1, x2, he12, hee⟩ := be2_two ep hep
  obtain ⟨s1, s2, s3, s4, s5, s6, hs6, hss⟩ := be6_six sq hsq
  have hl : hdOut ct 254 253 ep sq cl [] ++ body = ct :: 254 :: 253 :: x1 :: x2 :: s1 :: s2 :: s3 :: s4 :: s5 :: s6 :: ([] ++ (be 2 cl ++ body)) := by
    rw [hdOut, he12, hs6]; rfl
  have b0 : 9 < q := by rw [← hq]; exact block_lt v0.1
  have b2 : 10 < q := by rw [← hq]; exact block_lt v2.1
  have HUN := Lib.hid (fun (W : World) hk hin v0 v2 => unmHdG_plain (.int .u8 ct.toNat) (.int .u8 254) (.int .u8 253) (.int .u16 (ep : Int)) (.int .u64 (sq : Int)) cl q ab 0 c1 m ra c (hdOut ct 254 253 ep sq cl [] ++ body) ct x1 x2 s1 s2 s3 s4 s5 s6 [] ep sq n25 n25' hee hss rfl (by omega) (by omega) hmc W hk hin (by omega) v0 v2 (by omega) (by omega))
  have HSZ : Hid (∀ (W : World), W.cell? ⟨q, 6, none⟩ = some (.slice (some ⟨ra, 0, none⟩) 0 c) → Calls Tryd.prog 53 #[.pointer (some ⟨q, 0, none⟩)] W fun e w' => e = .returned (.int .i64 13) ∧ W = w') := Lib.hid (fun W h6 => hdrSize q 0 c ra W h6 (by omega))
  have HHL := Lib.hid (And.intro hlh hl)
  have HG := Lib.hid hri
  have HV := Lib.hid (And.intro v0 (And.intro v2 e1))
  have HQ := Lib.hid (And.intro hq hbab)
  have i1 : decide ((m : Int) ≤ 21) = true := decide_eq_true (by omega)
  have i1' : (m : Int) ≤ 21 := by omega
  clear hL hLb hm hmc hep hsq hri v0 v2 e1 hlh hq hbab hl b0 b2 he12 hs6 hee hss
  go_enter Tryd.func69, Tryd.ntmps69
  have hb1 := below_alloc w (.cells (hwRow ct 254 253 ep sq cl (some ⟨ra, 0, none⟩) 0 c) 53)
  have hk1 := Blk.new w 53 (hwRow ct 254 253 ep sq cl (some ⟨ra, 0, none⟩) 0 c)
  go_wp2_with fail
  rw [HQ.out.1] at hk1 hb1 ⊢
  generalize (World.alloc w _) = w1 at *
  have HB1 := Lib.hid hb1
  have HK1 := Lib.hid hk1
  clear hb1 hk1
  have hbw : Below w.heap.size w w1 := by rw [HQ.out.1]; exact HB1.out
  have hin1 := hdIn_of HHL.out.2 (HG.out.keep hbw)
  have u0 := keep_of_below hbw _ _ HV.out.1.1
  have u1 := keep_of_below hbw _ _ HV.out.1.2
  have u2 := keep_of_below hbw _ _ HV.out.2.1.1
  have u3 := keep_of_below hbw _ _ HV.out.2.1.2
  refine (HUN.out w1 HK1.out hin1 ⟨u0, u1⟩ ⟨u2, u3⟩).mono ?_
  clear hbw hin1 u0 u1 u2 u3
  rintro e w2 ⟨rfl, hk2, hg2⟩
  have hk2 : Blk w2 q 53 (hwRow ct 254 253 ep sq cl (some ⟨ra, 0, none⟩) 0 c) := hk2
  have HK2 := Lib.hid hk2
  have HB2 := Lib.hid (below_of_grown HB1.out hg2 (Nat.le_of_lt HK1.out.lt) (Nat.le_refl _))
  clear hk2 hg2 HUN HK1 HB1
  have k0 := (hdc HK2.out).1
  have k6 := (hdc HK2.out).2.2.2.2.2.2
  go_wp2_with fail
  refine (HSZ.out w2 k6).mono ?_
  rintro e w3 ⟨rfl, rfl⟩
  have hbw : Below w.heap.size w w2 := by rw [HQ.out.1]; exact HB2.out
  have c1' : w2.cell? ⟨1, 0, none⟩ = some (.iface t1 v1) := keep_of_below hbw _ _ HV.out.2.2
  have HBW := Lib.hid hbw
  clear hbw HB2 HK2
  go_wp2_with fail
  go_quiet (fail)
  have hz := Lib.hid (below_drewN HBW.out nq)
  generalize w2.drewN nq = w9 at *
  go_wp2_with fail
  first | go_ret2 | go_ret
  have hz9 : Below q w w9 := by rw [← HQ.out.1]; exact hz.out
  first | exact ⟨rfl, hz9⟩ | exact ⟨rfl, hz.out⟩ | exact ⟨⟨rfl, rfl⟩, hz9⟩
/-- What a record's body holds. -/
def aRec (key iv body : List UInt8) (ct : UInt8) (ep sq T : Nat) : Option (List UInt8) :=
  if body.length < 8 + T then none else aOpen key (iv ++ body.take 8) (body.drop 8) (add13 ct 254 253 ep sq (body.length - 8 - T)) T
def DecPost (w : World) (ab : Nat) (r : Option (List UInt8)) (e : Ending) (w' : World) : Prop :=
  (∀ p, r = some p → ∃ A' c' h', e = .returned (.tuple #[.slice A' (13 + p.length) c', .nilIface]) ∧ List.length h' = 13 ∧ 13 < c' ∧ 13 + p.length ≤ c' ∧ Rd w' A' (vs (h' ++ p))) ∧
  (r = none → ∃ t v, e = .returned (.tuple #[.slice none 0 0, .iface t v])) ∧ Tch [ab] w w'
theorem aeDec (g : Nat) (key iv body : List UInt8) (ct : UInt8) (T : Nat) (Ai Bi : Option Addr) (ci di ep sq cl ra c ab m c1 B : Nat) (t1 t7 : TypeId) (v1 v7 : Value) (hk : key.length ≤ 2000) (hiv : iv.length = 4) (hdi : 4 ≤ di) (hb : body.length ≤ 3000) (hm : 13 + body.length = m) (hmc : m ≤ c1) (h1 : 1 ≤ T) (h2 : T ≤ 16)
    (n20 : ((ct.toNat : Int) == 20) = false) (n20' : ¬ ct.toNat = 20) (n25 : ((ct.toNat : Int) == 25) = false) (n25' : ¬ ct.toNat = 25) (hep : ep < 65536) (hsq : sq < 281474976710656) (w : World)
    (hg : Blk w g 166 (aeRow key T Ai Bi 4 ci di)) (hri : Rd w Bi (vs iv)) (ho : Own w B 1 (some ⟨ab, 0, none⟩) m c1 (vs (hdOut ct 254 253 ep sq cl [] ++ body)))
    (v0 : w.cell? ⟨9, 0, none⟩ = some (.int .u8 254) ∧ w.cell? ⟨9, 1, none⟩ = some (.int .u8 255)) (v2 : w.cell? ⟨10, 0, none⟩ = some (.int .u8 254) ∧ w.cell? ⟨10, 1, none⟩ = some (.int .u8 253)) (e1 : w.cell? ⟨1, 0, none⟩ = some (.iface t1 v1)) (e7 : w.cell? ⟨7, 0, none⟩ = some (.iface t7 v7)) :
    Calls Tryd.prog 69 #[.pointer (some ⟨g, 0, none⟩), .agg (hwRow ct 254 253 ep sq cl (some ⟨ra, 0, none⟩) 0 c), .slice (some ⟨ab, 0, none⟩) m c1] w fun e w' => DecPost w ab (aRec key iv body ct ep sq T) e w' := by
  by_cases h8 : body.length ≤ 8
  · have hr : aRec key iv body ct ep sq T = none := by rw [aRec, if_pos (by omega)]
    rw [hr]
    exact (aeDec0 g body ct ep sq cl ra c ab m c1 body.length t1 v1 rfl h8 hm hmc n20 n20' n25 n25' hep hsq w ho.rd v0 v2 e1).mono fun e w' h => ⟨fun p h => (by cases h), fun _ => ⟨t1, v1, h.1⟩, Tch.below h.2 _⟩
  · obtain ⟨L, hL⟩ : ∃ L, body.length = 8 + L := ⟨body.length - 8, by omega⟩
    by_cases hf : body.length < 8 + T
    · have hr : aRec key iv body ct ep sq T = none := by rw [aRec, if_pos hf]
      rw [hr]
      have hn : aOpen key (iv ++ body.take 8) (body.drop 8) (add13 ct 254 253 ep sq (65536 + L - T)) T = none := by
        rw [aOpen, if_pos (by rw [List.length_drop]; omega)]
      exact (aeDec8 g key iv body ct T Ai Bi ci di ep sq cl ra c ab m c1 L (65536 + L - T) B t7 v7 hk hiv hdi hL (by omega) (by omega) (by omega) hmc h1 h2 n20 n20' n25 n25' hep hsq (by rw [IntKind.wrap_u16]; omega) w hg hri ho v0 v2 e7).mono fun e w' h => ⟨fun p h => (by cases h), fun _ => ⟨t7, v7, h.2.1 hn⟩, h.2.2⟩
    · have hr : aRec key iv body ct ep sq T = aOpen key (iv ++ body.take 8) (body.drop 8) (add13 ct 254 253 ep sq (L - T)) T := by rw [aRec, if_neg hf, show body.length - 8 - T = L - T by omega]
      rw [hr]
      exact (aeDec8 g key iv body ct T Ai Bi ci di ep sq cl ra c ab m c1 L (L - T) B t7 v7 hk hiv hdi hL (by omega) (by omega) (by omega) hmc h1 h2 n20 n20' n25 n25' hep hsq (by rw [IntKind.wrap_u16]; omega) w hg hri ho v0 v2 e7).mono fun e w' h => ⟨h.1, fun hn => ⟨t7, v7, h.2.1 hn⟩, h.2.2⟩
set_option maxHeartbeats 400000 in
theorem zzDec (g ab m c1 : Nat) (cs : Array Value) (hi : (Tryd.prog.info? 53).map (·.size) = some cs.size) (r : Option (List UInt8)) (w : World)
    (HD : ∀ W, Below w.heap.size w W → Calls Tryd.prog 69 #[.pointer (some ⟨g, 0, none⟩), .agg cs, .slice (some ⟨ab, 0, none⟩) m c1] W fun e w' => DecPost W ab r e w') :
    Calls Tryd.prog 40 #[.agg #[.pointer (some ⟨g, 0, none⟩)], .agg cs, .slice (some ⟨ab, 0, none⟩) m c1] w fun e w' => DecPost w ab r e w' := by
  have HDD := Lib.hid HD
  clear HD
  go_enter Tryd.func40, Tryd.ntmps40
  have hz := (Blk.new w 84 #[.pointer (some ⟨g, 0, none⟩)]).alloc (.cells cs 53)
  have hk := Blk.new (w.alloc (.cells #[.pointer (some ⟨g, 0, none⟩)] 84)) 53 cs
  rw [World.size_alloc] at hk
  have hb0 := below_two (below_alloc w (.cells #[.pointer (some ⟨g, 0, none⟩)] 84)) (below_alloc _ (.cells cs 53))
  have z0 := (hz.cell 0).trans (rfl : _ = some (Value.pointer (some ⟨g, 0, none⟩)))
  go_wp2_with (with_reducible refine Held.load 53 ?_)
  refine held_load_row hk Tryd.underlying53 hi rfl ?_
  generalize (World.alloc (World.alloc w _) _) = w0 at *
  have HB0 := Lib.hid hb0
  clear hz hk hb0 z0 hi
  go_wp2_with fail
  refine (HDD.out w0 HB0.out).mono ?_
  rintro e w1 ⟨hs, hn, ht⟩
  have HT := Lib.hid ((Tch.below HB0.out [ab]).trans ht)
  clear ht
  cases hr : r with
  | none =>
    obtain ⟨t, v, rfl⟩ := hn hr
    clear hn hs
    go_wp2_with fail
    first | go_ret2 | go_ret
    exact ⟨fun p h => (by rw [hr] at h; cases h), fun _ => ⟨t, v, rfl⟩, HT.out⟩
  | some p =>
    obtain ⟨A', c', h', rfl, hf⟩ := hs p hr
    have HF := Lib.hid hf
    clear hn hs hf
    go_wp2_with fail
    first | go_ret2 | go_ret
    exact ⟨fun p' h => (by rw [hr] at h; injection h with h; subst h; exact ⟨A', c', h', rfl, HF.out⟩), fun h => (by rw [hr] at h; cases h), HT.out⟩
end Go.Proofs.YtpedkkmoplbdhaaDoor
