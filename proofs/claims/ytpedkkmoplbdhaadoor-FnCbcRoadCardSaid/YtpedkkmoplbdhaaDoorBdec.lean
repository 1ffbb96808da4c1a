/- Walks: the library decrypts a record by cipher block chaining. -/
import Derived.Test.YtpedkkmoplbdhaaDoorBm
import Derived.Test.YtpedkkmoplbdhaaDoorBhm
import Derived.Test.YtpedkkmoplbdhaaDoorHdwU
import Derived.Test.YtpedkkmoplbdhaaDoorChE
import Derived.Deep.RegionHeldLaw
import Derived.Deep.RegionLaw
import Derived.Deep.DeepCutAuto
import Derived.BigQuiet
import Derived.Outline
namespace Go.Proofs.YtpedkkmoplbdhaaDoor
open Go.RowKit Go.Cv
set_option maxRecDepth 100000
set_option linter.unusedVariables false
theorem step_append2 {P : Program} {ops : Array Oper} {o : Oper} {a : Act} {w : World} {K : Act → World → Prop} {Q : Exit → Act → World → Prop} {E : Prop}
    (hgd : o.guard = none) (s x : Operand) (t u : TypeId) (ho : o.op = .call { callee := .builtin .append, args := #[s, x], argTypes := #[t, u] })
    (B e : Nat) (z : Value) (sz by_ : Nat) (ht : P.underlying t = some (.slice e)) (hu : P.underlying u = some (.slice e) ∨ P.underlying u = some .string)
    (hi : (P.info? e).map (fun i => (i.zero, i.size, i.bytes)) = some (some z, sz, by_)) (hzs : z.cells.size = sz) (hsz : 0 < sz)
    {A : Option Addr} {n c m : Nat} {xs ys : List Value} {xv : Value} (hs : a.eval s = .slice A n c) (hx : a.eval x = xv) (hown : Own w B sz A n c xs) (hsrc : Src w sz m xv ys)
    (hbytes : (n + m) * by_ ≤ 140737488355328) (h63 : n + m ≤ maxLen) (hB : B ≤ w.heap.size)
    (h : ∀ A' c' w', Own w' B sz A' (n + m) c' (xs ++ ys) → w.grownBy w' (A.map (·.block)) → ((A' = A ∧ c' = c) ∨ (A' = some ⟨w.heap.size, 0, none⟩ ∧ c < n + m)) → K (a.put o.dst (.slice A' (n + m) c')) w') :
    if Region.wanted o (yielded ops a.tmps) = true then Oper.wp P o a w K Q else E := by
  have hw : Region.wanted o (yielded ops a.tmps) = true := by simp [Region.wanted, hgd]
  rw [if_pos hw]
  obtain ⟨i, hi1, hi2, hi3, hi4⟩ := info_parts hi
  obtain ⟨A', c', w', hr, h2, h3, h4⟩ := run_append2 (P := P) w B t u o.type e i z sz by_ ht hu hi1 hi2 hi3 hi4 hzs hsz A n c xs hown xv m ys hsrc hbytes h63 hB
  unfold Oper.wp execOp
  simp only [ho, resolve, invoke, builtin, Sem.run_bind, Sem.run_pure, Result.andThen_ok, List.map_toArray, List.map_cons, List.map_nil, hs, hx, hr]
  exact h A' c' w' h2 h3 h4
def cbRow (m b : Nat) (A : Option Addr) (n c : Nat) : Array Value := #[.nilIface, .iface 91 (.pointer (some ⟨m, 0, none⟩)), .slice none 0 0, .slice A n c, .func (Fn.func 70) #[] #[.pointer (some ⟨b, 0, none⟩)]]
theorem cbc_ {W : World} {g m b n c : Nat} {A : Option Addr} (h : Blk W g 129 (cbRow m b A n c)) :
    W.cell? ⟨g, 1, none⟩ = some (.iface 91 (.pointer (some ⟨m, 0, none⟩))) ∧ W.cell? ⟨g, 3, none⟩ = some (.slice A n c) ∧ W.cell? ⟨g, 4, none⟩ = some (.func (Fn.func 70) #[] #[.pointer (some ⟨b, 0, none⟩)]) :=
  ⟨(h.cell 1).trans rfl, (h.cell 3).trans rfl, (h.cell 4).trans rfl⟩
theorem m_bs (m : Nat) (W : World) : (method 329 91 (.pointer (some ⟨m, 0, none⟩)) "BlockSize").run Tryd.prog W = .ok (127, .pointer (some ⟨m, 0, none⟩)) W := by kernel_rfl
theorem m_iv (m : Nat) (W : World) : (method 329 91 (.pointer (some ⟨m, 0, none⟩)) "SetIV").run Tryd.prog W = .ok (129, .pointer (some ⟨m, 0, none⟩)) W := by kernel_rfl
theorem m_cb (m : Nat) (W : World) : (method 329 91 (.pointer (some ⟨m, 0, none⟩)) "CryptBlocks").run Tryd.prog W = .ok (128, .pointer (some ⟨m, 0, none⟩)) W := by kernel_rfl
theorem m_sz (d : Nat) (W : World) : (method 329 132 (.pointer (some ⟨d, 0, none⟩)) "Size").run Tryd.prog W = .ok (148, .pointer (some ⟨d, 0, none⟩)) W := by kernel_rfl
theorem maxAny (x y : Nat) (w : World) : Calls Tryd.prog 72 #[.int .i64 (x : Nat), .int .i64 (y : Nat)] w fun e w' => e = .returned (.int .i64 ((Nat.max x y : Nat) : Int)) ∧ w = w' := by
  by_cases h : y < x
  · have t : decide ((y : Int) < x) = true := decide_eq_true (by omega)
    have hm : Nat.max x y = x := Nat.max_eq_left (by omega)
    rw [hm]
    go_enter Tryd.func72, Tryd.ntmps72
    go_wp2_with fail
    go_ret
    exact ⟨rfl, rfl⟩
  · have t : decide ((y : Int) < x) = false := decide_eq_false (by omega)
    have hm : Nat.max x y = y := Nat.max_eq_right (by omega)
    rw [hm]
    go_enter Tryd.func72, Tryd.ntmps72
    go_wp2_with fail
    go_ret
    exact ⟨rfl, rfl⟩
set_option maxHeartbeats 4000000 in
theorem cbcDec (g m b mb mo kind : Nat) (hkd : kind < 64) (key iv0 iv enc plain mk : List UInt8) (ct p : UInt8) (ep sq cl ra c ab N c1 B n D ts nk ck L : Nat) (hts : toySize kind = ts) (hnk : mk.length = nk) (hnk2 : nk ≤ 2000) (hiv : iv.length = 16) (henc : enc.length = 16 * n) (hn1 : n ≤ 500) (h16 : 16 * n = L)
    (hpl : plain.length = D) (hL : D + ts + (p.toNat + 1) = L) (hsh : cSho key n iv enc = plain ++ toyHmac kind mk (add13 ct 254 253 ep sq D ++ plain) ++ List.replicate (p.toNat + 1) p)
    (hN : 29 + L = N) (hNc : N ≤ c1) (n20 : ((ct.toNat : Int) == 20) = false) (n20' : ¬ ct.toNat = 20) (n25 : ((ct.toNat : Int) == 25) = false) (n25' : ¬ ct.toNat = 25) (hep : ep < 65536) (hsq : sq < 281474976710656) (w : World)
    (hg : Blk w g 129 (cbRow m b (some ⟨mb, mo, none⟩) nk ck)) (hmd : Blk w m 93 (mdRow key iv0)) (hb : w.cell? ⟨b, 0, none⟩ = some (.int .i64 (kind : Nat))) (hmk : Rd w (some ⟨mb, mo, none⟩) (vs mk)) (ho : Own w B 1 (some ⟨ab, 0, none⟩) N c1 (vs (hdOut ct 254 253 ep sq cl [] ++ (iv ++ enc))))
    (hd1 : g ≠ m ∧ g ≠ ab ∧ b ≠ m ∧ b ≠ ab ∧ m ≠ ab) (hmb : mk = [] ∨ mb ∉ [m, ab])
    (v0 : w.cell? ⟨9, 0, none⟩ = some (.int .u8 254) ∧ w.cell? ⟨9, 1, none⟩ = some (.int .u8 255)) (v2 : w.cell? ⟨10, 0, none⟩ = some (.int .u8 254) ∧ w.cell? ⟨10, 1, none⟩ = some (.int .u8 253)) :
    Calls Tryd.prog 47 #[.pointer (some ⟨g, 0, none⟩), .agg (hwRow ct 254 253 ep sq cl (some ⟨ra, 0, none⟩) 0 c), .slice (some ⟨ab, 0, none⟩) N c1] w fun e w' =>
      ∃ A' c' h', e = .returned (.tuple #[.slice A' (13 + D) c', .nilIface]) ∧ List.length h' = 13 ∧ 13 < c' ∧ 13 + D ≤ c' ∧ Rd w' A' (vs (h' ++ plain)) ∧ Tch [m, ab] w w' := by
  have hlh : (hdOut ct 254 253 ep sq cl []).length = 13 := by rw [hdOut_length]; rfl
  have hbab : ab < w.heap.size := by
    obtain ⟨v, _, hc, _⟩ := ho.at_ 0 (by omega)
    exact block_lt hc
  have HBA : Hid (B ≤ ab) := Lib.hid (by
    obtain ⟨_, _, _, h0 | ⟨b', o', hA, hB', _⟩⟩ := ho
    · omega
    · injection hA with hA; injection hA with hA; omega)
  have hts4 : 4 ≤ ts ∧ ts ≤ 32 := by rw [← hts]; unfold toySize; omega
  obtain ⟨q, hq⟩ : ∃ q, w.heap.size = q := ⟨_, rfl⟩
  obtain ⟨e1, e2, he12, hee⟩ := be2_two ep hep
  obtain ⟨s1, s2, s3, s4, s5, s6, hs6, hss⟩ := be6_six sq hsq
  have hl : hdOut ct 254 253 ep sq cl [] ++ (iv ++ enc) = ct :: 254 :: 253 :: e1 :: e2 :: s1 :: s2 :: s3 :: s4 :: s5 :: s6 :: ([] ++ (be 2 cl ++ (iv ++ enc))) := by
    rw [hdOut, he12, hs6]; rfl
  have b0 : 9 < q := by rw [← hq]; exact block_lt v0.1
  have b2 : 10 < q := by rw [← hq]; exact block_lt v2.1
  have HUN := Lib.hid (fun (W : World) hk hin v0 v2 => unmHdG_plain (.int .u8 ct.toNat) (.int .u8 254) (.int .u8 253) (.int .u16 (ep : Int)) (.int .u64 (sq : Int)) cl q ab 0 c1 N ra c (hdOut ct 254 253 ep sq cl [] ++ (iv ++ enc)) ct e1 e2 s1 s2 s3 s4 s5 s6 [] ep sq n25 n25' hee hss rfl (by omega) (by omega) hNc W hk hin (by omega) v0 v2 (by omega) (by omega))
  have HSZ : Hid (∀ (W : World), W.cell? ⟨q, 6, none⟩ = some (.slice (some ⟨ra, 0, none⟩) 0 c) → Calls Tryd.prog 53 #[.pointer (some ⟨q, 0, none⟩)] W fun e w' => e = .returned (.int .i64 13) ∧ W = w') := Lib.hid (fun W h6 => hdrSize q 0 c ra W h6 (by omega))
  have HHL := Lib.hid (And.intro hlh hl)
  have HG := Lib.hid (And.intro hg (And.intro hmd (And.intro hb (And.intro hmk ho))))
  have HV := Lib.hid (And.intro v0 v2)
  have HQ := Lib.hid (And.intro hq hbab)
  have HD1 := Lib.hid hd1
  have HMB := Lib.hid hmb
  have HN := Lib.hid (And.intro hts4 (And.intro hnk2 (And.intro hn1 (And.intro h16 (And.intro hL (And.intro hN hNc))))))
  have HLN := Lib.hid (And.intro hnk (And.intro hiv (And.intro henc (And.intro hpl hts))))
  have HW := Lib.hid (And.intro hkd (And.intro hep hsq))
  have HSH := Lib.hid hsh
  clear hts hnk hnk2 hiv henc hn1 h16 hpl hL hsh hN hNc hep hsq hg hmd hb hmk ho hd1 hmb v0 v2 hlh hq hbab hl b0 b2 he12 hs6 hee hss hts4 hkd
  have c1' := (cbc_ HG.out.1)
  go_enter Tryd.func47, Tryd.ntmps47
  have hb1 := below_alloc w (.cells (hwRow ct 254 253 ep sq cl (some ⟨ra, 0, none⟩) 0 c) 53)
  have hk1 := Blk.new w 53 (hwRow ct 254 253 ep sq cl (some ⟨ra, 0, none⟩) 0 c)
  have g1 : (w.alloc (.cells (hwRow ct 254 253 ep sq cl (some ⟨ra, 0, none⟩) 0 c) 53)).cell? ⟨g, 1, none⟩ = some (.iface 91 (.pointer (some ⟨m, 0, none⟩))) := keep_of_below hb1 _ _ c1'.1
  have g4 : (w.alloc (.cells (hwRow ct 254 253 ep sq cl (some ⟨ra, 0, none⟩) 0 c) 53)).cell? ⟨g, 4, none⟩ = some (.func (Fn.func 70) #[] #[.pointer (some ⟨b, 0, none⟩)]) := keep_of_below hb1 _ _ c1'.2.2
  have gb : (w.alloc (.cells (hwRow ct 254 253 ep sq cl (some ⟨ra, 0, none⟩) 0 c) 53)).cell? ⟨b, 0, none⟩ = some (.int .i64 (kind : Nat)) := keep_of_below hb1 _ _ HG.out.2.2.1
  have hm1 := m_bs m
  go_wp2_with fail
  rw [HQ.out.1] at hk1 hb1 ⊢
  generalize (World.alloc w _) = w1 at *
  have HB1 := Lib.hid hb1
  have HK1 := Lib.hid hk1
  clear hb1 hk1
  refine (modeSize m w1).mono ?_
  rintro e w2 ⟨rfl, rfl⟩
  go_wp2_with fail
  refine (hashOne b kind w1 gb).mono ?_
  rintro e w2 ⟨d, rfl, hD2, hd2, hb2⟩
  have HB2 : Hid (Below q w w2) := Lib.hid (HB1.out.trans (hb2.mono (Nat.le_of_lt HK1.out.lt)))
  have HK2 := Lib.hid (HK1.out.keep hb2)
  have HD2 := Lib.hid hD2
  have HQD : Hid (q < d) := Lib.hid (Nat.lt_of_lt_of_le HK1.out.lt hd2)
  clear hD2 hd2 hb2 g1 g4 gb c1' HK1 HB1
  go_wp2_with fail
  have hbw : Below w.heap.size w w2 := by rw [HQ.out.1]; exact HB2.out
  have hin1 := hdIn_of HHL.out.2 (HG.out.2.2.2.2.rd.keep hbw)
  have u0 := keep_of_below hbw _ _ HV.out.1.1
  have u1 := keep_of_below hbw _ _ HV.out.1.2
  have u2 := keep_of_below hbw _ _ HV.out.2.1
  have u3 := keep_of_below hbw _ _ HV.out.2.2
  refine (HUN.out w2 HK2.out hin1 ⟨u0, u1⟩ ⟨u2, u3⟩).mono ?_
  clear hbw hin1 u0 u1 u2 u3
  rintro e w3 ⟨rfl, hk3, hg3⟩
  have hk3 : Blk w3 q 53 (hwRow ct 254 253 ep sq cl (some ⟨ra, 0, none⟩) 0 c) := hk3
  have HK3 := Lib.hid hk3
  have HD3 := Lib.hid (HD2.out.tch (Tch.grown hg3) (by have := HQD.out; simp [foot]; omega))
  have hb3 : Below w.heap.size w w3 := by rw [HQ.out.1]; exact below_of_grown HB2.out hg3 (Nat.le_of_lt HK2.out.lt) (Nat.le_refl _)
  have HB3 := Lib.hid hb3
  have HG3 := Lib.hid (HG.out.1.keep hb3)
  have HM3 := Lib.hid (HG.out.2.1.keep hb3)
  have HC3 := Lib.hid (keep_of_below hb3 _ _ HG.out.2.2.1)
  have HR3 := Lib.hid (HG.out.2.2.2.1.keep hb3)
  have HO3 := Lib.hid (HG.out.2.2.2.2.keep hb3)
  have HS3 : Hid (q < w3.heap.size ∧ d < w3.heap.size ∧ g < q ∧ m < q) := Lib.hid ⟨HK3.out.lt, HD3.out.lt d (by simp [foot]), by rw [← HQ.out.1]; exact HG.out.1.lt, by rw [← HQ.out.1]; exact HG.out.2.1.lt⟩
  clear hk3 hg3 HUN HK2 HB2 HD2 hb3
  have k0 := (hdc HK3.out).1
  have k6 := (hdc HK3.out).2.2.2.2.2.2
  obtain ⟨M, hM⟩ : ∃ M, 16 + L = M := ⟨_, rfl⟩
  have HMM := Lib.hid hM
  have i1 : (13 : Int) ≤ N := by have := HN.out; omega
  have i2 : ¬ c1 = 13 := by have := HN.out; omega
  have i3 : (N : Int) ≤ c1 := by have := HN.out; omega
  have i4 : N - 13 = M := by have := HN.out; omega
  have i5 : (M : Int).tmod 16 = 0 := by rw [Int.tmod_eq_emod_of_nonneg (by omega)]; have := HN.out; omega
  have i6 : (M : Int) % 16 = 0 := by have := HN.out; omega
  have hms := m_sz d
  clear hM
  go_wp2_with fail
  refine (HSZ.out w3 k6).mono ?_
  rintro e w4 ⟨rfl, rfl⟩
  go_wp2_with fail
  refine (digSize d kind none [] HW.out.1 w3 HD3.out).mono ?_
  rintro e w4 ⟨rfl, rfl⟩
  rw [HLN.out.2.2.2.2]
  obtain ⟨t1, ht1⟩ : ∃ t, ts + 1 = t := ⟨_, rfl⟩
  have z1 : (ts : Int) + 1 = (t1 : Int) := by omega
  have Hz2 : Hid (wrap64 (t1 : Int) = (t1 : Int)) := Lib.hid (by have := HN.out; unfold wrap64; omega)
  have Hz3 : Hid (IntKind.i64.wrap (t1 : Int) = (t1 : Int)) := Lib.hid (i64_nat t1 (by have := HN.out; omega))
  have HT1 := Lib.hid ht1
  have z2 := Hz2.out
  have z3 := Hz3.out
  clear ht1
  go_wp2_with fail
  refine (maxAny t1 16 w3).mono ?_
  rintro e w4 ⟨rfl, rfl⟩
  obtain ⟨X, hX⟩ : ∃ X, Nat.max t1 16 = X := ⟨_, rfl⟩
  have hXL : X ≤ L := by rw [← hX]; refine Nat.max_le.2 ⟨?_, ?_⟩ <;> (have := HN.out; have := HT1.out; omega)
  rw [hX]
  obtain ⟨Y, hY⟩ : ∃ Y, 16 + X = Y := ⟨_, rfl⟩
  have y1 : (16 : Int) + (X : Int) = (Y : Int) := by omega
  have y4 : decide ((M : Int) < Y) = false := decide_eq_false (by have := HMM.out; omega)
  have y5 : ¬ (M : Int) < Y := by have := HMM.out; omega
  have Hy2 : Hid (wrap64 (Y : Int) = (Y : Int)) := Lib.hid (by have := HN.out; unfold wrap64; omega)
  have Hy3 : Hid (IntKind.i64.wrap (Y : Int) = (Y : Int)) := Lib.hid (i64_nat Y (by have := HN.out; omega))
  have y2 := Hy2.out
  have y3 := Hy3.out
  clear hX hXL hY z1 z2 z3 i1 i2 i3 i4 Hz2 Hz3
  have g1 : w3.drew.cell? ⟨g, 1, none⟩ = some (.iface 91 (.pointer (some ⟨m, 0, none⟩))) := (cbc_ HG3.out).1
  have HRI : Hid (Rd w3.drew (some ⟨ab, 13, none⟩) (vs iv)) := Lib.hid (by
    have h1 := HO3.out.rd
    rw [vs_append] at h1
    have h2 := Rd.drop' (xs := vs (hdOut ct 254 253 ep sq cl [])) (ys := vs (iv ++ enc)) h1
    rw [vs_length, HHL.out.1, vs_append] at h2
    have h3 := h2.take (vs iv).length
    rw [List.take_left' rfl] at h3
    exact h3)
  have HMD : Hid (Blk w3.drew m 93 (mdRow key iv0)) := Lib.hid (HM3.out.keep (below_drew w3))
  have HSI := Lib.hid (modeIV m key iv0 iv (some ⟨ab, 13, none⟩) 16 (c1 - 13) HLN.out.2.1 w3.drew HMD.out HRI.out)
  have hmiv := m_iv m
  go_wp2_with fail
  clear y1 y2 y3 y4 y5 i5 i6 hms k0
  have j1 : (16 : Int) ≤ ((c1 - 13 : Nat) : Int) := by have := HN.out; omega
  go_region_law (first
    | (go_simp; go_at_call 129; (with_reducible refine HSI.out.mono ?_); rintro e w4 ⟨rfl, hm4, ht4⟩))
  have HM4 := Lib.hid hm4
  have hq4 : q ∉ [m, ab] := by have := HS3.out; have := HQ.out; simp; omega
  have hd4 : d ∉ [m, ab] := by have := HS3.out; have := HQ.out; have := HQD.out; simp; omega
  have hg4 : g ∉ [m, ab] := by have := HD1.out; simp; omega
  have hb4 : b ∉ [m, ab] := by have := HD1.out; simp; omega
  have HNI := Lib.hid (And.intro hq4 (And.intro hd4 (And.intro hg4 hb4)))
  have HT4 : Hid (Tch [m, ab] w3 w4) := Lib.hid (((Tch.drew w3).more (by simp)).trans (ht4.more (by simp)))
  have HO4 : Hid (Own w4 B 1 (some ⟨ab, 0, none⟩) N c1 (vs (hdOut ct 254 253 ep sq cl [] ++ (iv ++ enc)))) := Lib.hid ((HO3.out.keep (below_drew w3)).tch ht4 (.inr ⟨ab, rfl, by have := HD1.out; simp; omega⟩))
  clear hm4 ht4 HMD HRI HSI hmiv hq4 hd4 hg4 hb4 j1
  obtain ⟨c13, hc13⟩ : ∃ k, c1 - 13 = k := ⟨_, rfl⟩
  rw [hc13]
  have g1 : w4.cell? ⟨g, 1, none⟩ = some (.iface 91 (.pointer (some ⟨m, 0, none⟩))) := (cbc_ (HG3.out.tch HT4.out HNI.out.2.2.1)).1
  have i1 : (16 : Int) ≤ M := by have := HMM.out; omega
  have i2 : (M : Int) ≤ c13 := by have := HN.out; have := HMM.out; omega
  have i3 : ¬ c13 = 16 := by have := HN.out; have := HMM.out; omega
  have i4 : M - 16 = L := by have := HMM.out; omega
  have HC13 := Lib.hid hc13
  have hmcb := m_cb m
  clear hc13
  have HRE : Hid (Rd w4 (some ⟨ab, 29, none⟩) (vs enc)) := Lib.hid (by
    have h1 := HO4.out.rd
    rw [vs_append] at h1
    have h2 := Rd.drop' (xs := vs (hdOut ct 254 253 ep sq cl [])) (ys := vs (iv ++ enc)) h1
    rw [vs_length, HHL.out.1, vs_append] at h2
    have h3 := Rd.drop' (xs := vs iv) (ys := vs enc) h2
    rw [vs_length, HLN.out.2.1] at h3
    exact h3)
  obtain ⟨cc, hcc⟩ : ∃ k, c13 - 16 = k := ⟨_, rfl⟩
  have hLcc : L ≤ cc := by have := HN.out; have := HC13.out; omega
  have HCC := Lib.hid hLcc
  have HCR := Lib.hid (modeCrypt m key iv enc n L ab 29 29 N c1 cc B _ HLN.out.2.1 HLN.out.2.2.1 (by have := HN.out; omega) (by have := HN.out; omega) HN.out.2.2.2.1 rfl (by have := HN.out; omega) w4 HM4.out (by have := HD1.out; omega) HO4.out HRE.out)
  go_wp2_with fail
  clear hLcc
  refine HCR.out.mono ?_
  rintro e w5 ⟨rfl, hO5, ht5⟩
  obtain ⟨sh, hsh⟩ : ∃ s, cSho key n iv enc = s := ⟨_, rfl⟩
  rw [hsh] at hO5 HSH
  have hshl : sh.length = L := by rw [← hsh, cSho_length]; exact HN.out.2.2.2.1
  have HSL := Lib.hid hshl
  have HT5 := Lib.hid (HT4.out.trans ht5)
  have hl29 : (List.take 29 (vs (hdOut ct 254 253 ep sq cl [] ++ (iv ++ enc)))).length = 29 := by
    rw [List.length_take, vs_length, List.length_append, List.length_append, HHL.out.1, HLN.out.2.1]; omega
  have HR5 : Hid (Rd w5 (some ⟨ab, 29, none⟩) (vs sh)) := Lib.hid (by
    have h2 := Rd.drop' hO5.rd
    rw [hl29] at h2
    have h3 := h2.take (vs sh).length
    rw [List.take_left' rfl] at h3
    exact h3)
  have HO5 : Hid (Own w5 B 1 (some ⟨ab, 0, none⟩) 13 c1 (vs (hdOut ct 254 253 ep sq cl []))) := Lib.hid (by
    have h1 := hO5.cut 13 (by have := HN.out; omega)
    rw [List.take_append_of_le_length (by rw [hl29]; omega), List.take_take, vs_append, List.take_left' (by rw [vs_length, HHL.out.1]; rfl)] at h1
    exact h1)
  clear hO5 ht5 hl29 HCR HRE HO4 HM4 hsh hcc i1 i2 i3 i4 g1 hmcb
  go_wp2_with fail
  obtain ⟨P1, hP1⟩ : ∃ P, p.toNat + 1 = P := ⟨_, rfl⟩
  have HP1 := Lib.hid hP1
  have hmid : plain.length + (toyHmac kind mk (add13 ct 254 253 ep sq D ++ plain)).length + P1 = L := by
    have h := HSL.out
    rw [HSH.out, List.length_append, List.length_append, List.length_replicate] at h
    rw [hP1] at h
    exact h
  have HPA := Lib.hid (pad_any sh p L HSL.out (by have := HN.out; omega) (by have := HN.out; omega) (fun i hi => by
    rw [HSH.out, List.getD_eq_getElem?_getD, List.getElem?_append_right (by rw [List.length_append]; omega), List.getElem?_replicate, if_pos (by rw [List.length_append]; omega)]; rfl) ab 29 cc w5 HR5.out)
  rw [hP1] at HPA
  refine HPA.out.mono ?_
  rintro e w6 ⟨rfl, hb6⟩
  have HT6 := Lib.hid (HT5.out.trans (Tch.below hb6 _))
  have HR6 := Lib.hid (HR5.out.keep hb6)
  have HO6 := Lib.hid (HO5.out.keep hb6)
  have HD6 := Lib.hid (HD3.out.tch HT6.out (by have := HNI.out.2.1; intro k hk; simp [foot] at hk; subst hk; exact this))
  clear hb6 HPA HR5 HO5 HT5 HT4 hmid
  have hms := m_sz d
  go_wp2_with fail
  refine (digSize d kind none [] HW.out.1 w6 HD6.out).mono ?_
  rintro e w7 ⟨rfl, rfl⟩
  rw [HLN.out.2.2.2.2]
  obtain ⟨R, hR⟩ : ∃ R, L - ts = R := ⟨_, rfl⟩
  have HRR : Hid (D + P1 = R ∧ R + ts = L) := Lib.hid (by have := HN.out; omega)
  have r1 : (L : Int) - (ts : Int) = (R : Int) := by have := HN.out; omega
  have r2 : (R : Int) - (P1 : Int) = (D : Int) := by have := HRR.out; omega
  have Hr3 : Hid (wrap64 (R : Int) = (R : Int)) := Lib.hid (w64_all R (by have := HN.out; omega))
  have Hr4 : Hid (IntKind.i64.wrap (R : Int) = (R : Int)) := Lib.hid (i64_nat R (by have := HN.out; omega))
  clear hR hP1
  have r3 := Hr3.out
  have r4 := Hr4.out
  go_wp2_with fail
  refine (ct_le (P1 : Int) (R : Int) (decide_eq_true (by have := HRR.out; omega)) (by have := HRR.out; omega) w6).mono ?_
  rintro e w7 ⟨rfl, rfl⟩
  have a1 : bits .and .u8 255 1 = 1 := by kernel_rfl
  have a2 : bits .and .i64 1 1 = 1 := by kernel_rfl
  go_wp2_with fail
  clear r3 r4
  refine (ct_sel P1 (by have := HN.out; have := HRR.out; omega) w6).mono ?_
  rintro e w7 ⟨rfl, rfl⟩
  obtain ⟨E, hE⟩ : ∃ E, D + ts = E := ⟨_, rfl⟩
  have r5 : (D : Int) + (ts : Int) = (E : Int) := by omega
  have r6 : (D : Int) ≤ E := by omega
  have r7 : (E : Int) ≤ cc := by have := HRR.out; have := HCC.out; omega
  have r8 : ¬ cc = D := by have := HRR.out; have := HCC.out; have := HN.out; omega
  have r9 : E - D = ts := by omega
  have r10 : (D : Int) ≤ cc := by omega
  have Hd3 : Hid (wrap64 (D : Int) = (D : Int)) := Lib.hid (w64_all D (by have := HN.out; omega))
  have Hd4 : Hid (IntKind.i64.wrap (D : Int) = (D : Int)) := Lib.hid (i64_nat D (by have := HN.out; omega))
  have He3 : Hid (wrap64 (E : Int) = (E : Int)) := Lib.hid (w64_all E (by have := HN.out; have := HRR.out; omega))
  have He4 : Hid (IntKind.i64.wrap (E : Int) = (E : Int)) := Lib.hid (i64_nat E (by have := HN.out; have := HRR.out; omega))
  have k0 := (hdc (HK3.out.tch HT6.out HNI.out.1)).1
  have HKQ := Lib.hid (HK3.out.tch HT6.out HNI.out.1)
  have HGQ := Lib.hid (HG3.out.tch HT6.out HNI.out.2.2.1)
  clear hE k6 hms
  have r3 := Hr3.out
  have r4 := Hr4.out
  have d3 := Hd3.out
  have d4 := Hd4.out
  go_upto_region 20 with (fail)
  clear r1 r2 r3 r4 d3 d4
  have e3 := He3.out
  have e4 := He4.out
  go_upto_region 25 with (fail)
  clear r5 r7 r9 e3 e4 a1
  have HHM : Hid (Calls Tryd.prog 77 #[.pointer (some ⟨g, 0, none⟩), .int .u16 (ep : Int), .int .u64 (sq : Int), .int .u8 (ct.toNat : Int), .agg #[.int .u8 254, .int .u8 253], .slice (some ⟨ab, 29, none⟩) D cc, .slice (some ⟨mb, mo, none⟩) nk ck, .func (Fn.func 70) #[] #[.pointer (some ⟨b, 0, none⟩)]] w6.drew fun e w' =>
      ∃ A' c', e = .returned (.tuple #[.slice A' ts c', .nilIface]) ∧ Rd w' A' (vs (toyHmac kind mk (add13 ct 254 253 ep sq D ++ plain))) ∧ Below w6.drew.heap.size w6.drew w') := Lib.hid (by
    have h := cbcHmac g b kind HW.out.1 ct ep sq mk plain (some ⟨ab, 29, none⟩) (some ⟨mb, mo, none⟩) D cc nk ck HLN.out.2.2.2.1 HLN.out.1 (by have := HN.out; have := HRR.out; omega) (by have := HN.out; omega) w6.drew (HT6.out.cell HC3.out (by have := HNI.out.2.2.2; simpa using this)) (by
      have h1 := HR6.out.take (vs plain).length
      rw [HSH.out, List.append_assoc, vs_append, List.take_left' rfl] at h1
      exact h1) (by
      rcases HMB.out with h | h
      · rw [h]; exact .inl rfl
      · exact (HR3.out.tch HT6.out h).keep (below_drew w6))
    rw [HLN.out.2.2.2.2] at h
    exact h)
  obtain ⟨c0, _, c2, c3, c4, c5, _⟩ := hdc HKQ.out
  obtain ⟨_, x3, x4⟩ := cbc_ HGQ.out
  have HX : Hid (∀ w', Below w6.drew.heap.size w6.drew w' → w'.cell? ⟨q, 0, none⟩ = some (.int .u8 ct.toNat) ∧ w'.cell? ⟨q, 2, none⟩ = some (.int .u8 254) ∧ w'.cell? ⟨q, 3, none⟩ = some (.int .u8 253) ∧ w'.cell? ⟨q, 4, none⟩ = some (.int .u16 (ep : Int)) ∧ w'.cell? ⟨q, 5, none⟩ = some (.int .u64 (sq : Int)) ∧ w'.cell? ⟨g, 3, none⟩ = some (.slice (some ⟨mb, mo, none⟩) nk ck) ∧ w'.cell? ⟨g, 4, none⟩ = some (.func (Fn.func 70) #[] #[.pointer (some ⟨b, 0, none⟩)])) := Lib.hid (fun w' h => by
    obtain ⟨z0, _, z2, z3, z4, z5, _⟩ := hdc ((HKQ.out.keep (below_drew w6)).keep h)
    obtain ⟨_, y3, y4⟩ := cbc_ ((HGQ.out.keep (below_drew w6)).keep h)
    exact ⟨z0, z2, z3, z4, z5, y3, y4⟩)
  clear c0 c2 c3 c4 c5 x3 x4 k0
  go_region_held_law (fun w' => w'.cell? ⟨q, 0, none⟩ = some (.int .u8 ct.toNat) ∧ w'.cell? ⟨q, 2, none⟩ = some (.int .u8 254) ∧ w'.cell? ⟨q, 3, none⟩ = some (.int .u8 253) ∧ w'.cell? ⟨q, 4, none⟩ = some (.int .u16 (ep : Int)) ∧ w'.cell? ⟨q, 5, none⟩ = some (.int .u64 (sq : Int)) ∧ w'.cell? ⟨g, 3, none⟩ = some (.slice (some ⟨mb, mo, none⟩) nk ck) ∧ w'.cell? ⟨g, 4, none⟩ = some (.func (Fn.func 70) #[] #[.pointer (some ⟨b, 0, none⟩)])) (first | exact HX.out _ (Below.refl _ _) | exact HX.out _ hb7) (first
    | (go_at_call 77; (with_reducible refine HHM.out.mono ?_); rintro e w7 ⟨A7, c7, rfl, hr7, hb7⟩))
  all_goals
    have hb7' : Below w6.heap.size w6 w7 := below_two (below_drew w6) hb7
    have HT7 := Lib.hid (HT6.out.trans (Tch.below hb7' _))
    have HR7 := Lib.hid (HR6.out.keep hb7')
    have HO7 := Lib.hid (HO6.out.keep hb7')
    obtain ⟨mac, hmac⟩ : ∃ k, toyHmac kind mk (add13 ct 254 253 ep sq D ++ plain) = k := ⟨_, rfl⟩
    rw [hmac] at hr7 HSH
    have hml : mac.length = ts := by rw [← hmac, toyHmac_length]; exact HLN.out.2.2.2.2
    obtain ⟨a7, o7, rfl⟩ := hr7.addr (by intro e; rw [e] at hml; have := HN.out; simp at hml; omega)
    have HRX : Hid (Rd w7 (some ⟨ab, 29 + D, none⟩) (vs mac)) := Lib.hid (by
      have h1 := HR7.out
      rw [HSH.out, List.append_assoc, vs_append] at h1
      have h2 := Rd.drop' (xs := vs plain) (ys := vs (mac ++ List.replicate (p.toNat + 1) p)) h1
      rw [vs_length, HLN.out.2.2.2.1] at h2
      have h3 := h2.take (vs mac).length
      rw [vs_append, List.take_left' rfl] at h3
      exact h3)
    have HRP : Hid (Rd w7 (some ⟨ab, 29, none⟩) (vs plain)) := Lib.hid (by
      have h1 := HR7.out.take (vs plain).length
      rw [HSH.out, List.append_assoc, vs_append, List.take_left' rfl] at h1
      exact h1)
    have HCM := Lib.hid (ct_cmp mac ts hml (by have := HN.out; omega) a7 o7 c7 ab (29 + D) (cc - D) w7 hr7 HRX.out)
    clear hr7 hb7 hb7' HR7 HRX hmac HHM HX
    go_wp2_with fail
    refine HCM.out.mono ?_
    rintro e w8 ⟨rfl, hb8⟩
    have HT8 := Lib.hid (HT7.out.trans (Tch.below hb8 _))
    have HO8 := Lib.hid (HO7.out.keep hb8)
    have HP8 := Lib.hid (HRP.out.keep hb8)
    have k6 : w8.drew.cell? ⟨q, 6, none⟩ = some (.slice (some ⟨ra, 0, none⟩) 0 c) := (hdc (HK3.out.tch HT8.out HNI.out.1)).2.2.2.2.2.2
    have l1 : (13 : Int) ≤ c1 := by have := HN.out; omega
    clear hb8 HCM HT7 HO7 HRP
    go_wp2_with fail
    go_region_law (first
      | (go_simp; go_at_call 53; (with_reducible refine (HSZ.out _ k6).mono ?_); rintro e w9 ⟨rfl, rfl⟩)
      | (refine step_append2 rfl (.tmp 182) (.tmp 185) 51 51 rfl B 5 (.int .u8 0) 1 1 Tryd.underlying51 (.inl Tryd.underlying51) t_u8info rfl (by omega) (m := D) (ys := vs plain) rfl rfl (HO8.out.keep (below_drew w8)) ⟨by rw [vs_length, HLN.out.2.2.2.1]; omega, vs_one _, .inl ⟨_, _, rfl, HP8.out.keep (below_drew w8)⟩⟩ (by have := HRR.out; have := HN.out; omega) (by have := HRR.out; have := HN.out; simp only [maxLen]; omega) (by have h1 := HBA.out; have h2 := HQ.out; have h3 := HT8.out.size; have h4 := HB3.out.size; rw [World.size_drew]; omega) ?_; intro A9 c9 w9 hO9 hg9 hor9))
    all_goals
      have hc9 : c9 = c1 := by
        rcases hor9 with h | ⟨_, h⟩
        · exact h.2
        · have := HRR.out; have := HN.out; omega
      have HF := Lib.hid (And.intro hO9.rd ((((Tch.below HB3.out [m, ab]).trans HT8.out).trans ((Tch.drew w8).more (by simp))).trans ((Tch.grown hg9).more (by simp))))
      clear hO9 hg9 hor9 HO8 HP8 HT8
      subst hc9
      go_wp2_with fail
      first | go_ret2 | go_ret
      have hF1 := HF.out.1
      rw [← vs_append] at hF1
      have hfin : List.length (hdOut ct 254 253 ep sq cl []) = 13 ∧ 13 < c9 ∧ 13 + D ≤ c9 := ⟨HHL.out.1, by have := HN.out; omega, by have := HN.out; have := HRR.out; omega⟩
      exact ⟨A9, c9, hdOut ct 254 253 ep sq cl [], rfl, hfin.1, hfin.2.1, hfin.2.2, hF1, HF.out.2⟩
end Go.Proofs.YtpedkkmoplbdhaaDoor
