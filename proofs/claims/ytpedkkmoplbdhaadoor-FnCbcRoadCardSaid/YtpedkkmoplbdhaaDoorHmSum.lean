/- Walks: what a keyed hash takes and tells. -/
import Derived.Test.YtpedkkmoplbdhaaDoorHmNew
namespace Go.Proofs.YtpedkkmoplbdhaaDoor
open Go.RowKit Go.Cv
set_option maxRecDepth 100000
set_option linter.unusedVariables false
theorem own_cut {w : World} {B n c : Nat} {A : Option Addr} {xs : List Value} (h : Own w B 1 A n c xs) : Own w B 1 A 0 c [] := by
  obtain ⟨h1, h2, h3, h0 | ⟨b, o, hA, hb, hc, hs, hf⟩⟩ := h
  · exact ⟨by simp, Nat.zero_le _, h3, .inl h0⟩
  · exact ⟨by simp, Nat.zero_le _, h3, .inr ⟨b, o, hA, hb, fun j v hj => by simp at hj, hs, hf⟩⟩
theorem own_base {w : World} {B B' n c b o : Nat} {xs : List Value} (h : Own w B 1 (some ⟨b, o, none⟩) n c xs) (hb : B' ≤ b) : Own w B' 1 (some ⟨b, o, none⟩) n c xs := by
  obtain ⟨h1, h2, h3, h0 | ⟨b', o', hA, h4, r⟩⟩ := h
  · exact ⟨h1, h2, h3, .inl h0⟩
  · injection hA with hA
    injection hA with hb' ho'
    subst hb' ho'
    exact ⟨h1, h2, h3, .inr ⟨_, _, rfl, hb, r⟩⟩
/-- What a hash tells, behind bytes of the caller's own. -/
theorem digSumOn (d kind : Nat) (A : Option Addr) (l : List UInt8) (hk : kind < 64) (hl : l.length ≤ 1000000) (A0 : Option Addr) (n0 c0 B : Nat) (xs : List Value) (h0 : n0 ≤ 1000) (w : World) (h : Dg w d kind A l) (hown : Own w B 1 A0 n0 c0 xs) (hB : B ≤ w.heap.size) (hA0 : ∀ k ∈ foot d A, k ∉ (A0.map (·.block)).toList) :
    Calls Tryd.prog 149 #[.pointer (some ⟨d, 0, none⟩), .slice A0 n0 c0] w fun e w' => ∃ A' c', e = .returned (.slice A' (n0 + toySize kind : Nat) c') ∧ Own w' B 1 A' (n0 + toySize kind) c' (xs ++ vs (toySum kind l)) ∧ Tch (A0.map (·.block)).toList w w' := by
  have HX : Hid (∀ w', Tch (A0.map (·.block)).toList w w' → w'.cell? ⟨d, 0, none⟩ = some (.int .i64 (kind : Nat)) ∧ (∃ c, w'.cell? ⟨d, 1, none⟩ = some (.slice A l.length c)) ∧ ∀ c, (convert 51 9 (.slice A l.length c)).run Tryd.prog w' = .ok (.string (S l)) w') := Lib.hid (fun w' hb => by
    obtain ⟨⟨c, h1, h2⟩, _⟩ := h.tch hb hA0
    exact ⟨(h1.cell 0).trans rfl, ⟨c, (h1.cell 1).trans rfl⟩, fun c' => run_conv_bs w' _ _ 5 Tryd.underlying51 Tryd.underlying5 Tryd.underlying9 l A l.length c' rfl h2.rd⟩)
  obtain ⟨c, hc1⟩ : ∃ c, w.cell? ⟨d, 1, none⟩ = some (.slice A l.length c) := (HX.out w (Tch.refl _ _)).2.1
  have HX : Hid (∀ w', Tch (A0.map (·.block)).toList w w' → w'.cell? ⟨d, 0, none⟩ = some (.int .i64 (kind : Nat)) ∧ w'.cell? ⟨d, 1, none⟩ = some (.slice A l.length c) ∧ (convert 51 9 (.slice A l.length c)).run Tryd.prog w' = .ok (.string (S l)) w') := Lib.hid (fun w' hb => ⟨(HX.out w' hb).1, hb.cell hc1 (hA0 d (by simp [foot])), (HX.out w' hb).2.2 c⟩)
  have HSM : Hid (∀ W, Calls Tryd.prog 141 #[.int .i64 (kind : Nat), .string (S l)] W fun e w' => e = .returned (.string (S (toySum kind l))) ∧ Below W.heap.size W w') := Lib.hid (fun W => t_sum kind l hk hl W)
  have HTL : Hid ((toySum kind l).length = toySize kind) := Lib.hid (toySum_length kind l)
  have HTB := Lib.hid (toySize_le kind)
  have HO := Lib.hid hown
  have HB := Lib.hid hB
  have H0 := Lib.hid h0
  clear h hk hl hown hA0 hB h0 hc1
  obtain ⟨n, hn⟩ : ∃ n, toySize kind = n := ⟨_, rfl⟩
  rw [hn] at HTL HTB ⊢
  obtain ⟨sm, hsm⟩ : ∃ s, toySum kind l = s := ⟨_, rfl⟩
  rw [hsm] at HTL HSM ⊢
  clear hn hsm
  go_enter Tryd.func149, Tryd.ntmps149
  go_wp2_with fail
  go_region_held_law (fun w' => w'.cell? ⟨d, 0, none⟩ = some (.int .i64 (kind : Nat)) ∧ w'.cell? ⟨d, 1, none⟩ = some (.slice A l.length c) ∧ (convert 51 9 (.slice A l.length c)).run Tryd.prog w' = .ok (.string (S l)) w')
    (first | exact HX.out _ (Tch.below (below_drew w) _) | exact HX.out _ hT2 | exact HX.out _ hT9) (first
    | (go_at_call 141; with_reducible refine (HSM.out _).mono ?_; rintro e w2 ⟨rfl, hb2⟩; have hT2 : Tch (A0.map (·.block)).toList w w2 := (Tch.below (below_drew w) _).trans (Tch.below hb2 _))
    | (refine step_append rfl (.tmp 5) (.tmp 15) 51 9 rfl B 5 _ 1 1 Tryd.underlying51 (.inr Tryd.underlying9) t_u8info rfl (by omega) (xs := xs) (ys := vs sm) (m := n) rfl rfl ((HO.out.keep (below_drew w)).keep hb2) ⟨by rw [vs_length, HTL.out]; omega, vs_one _, .inr ⟨sm, rfl, rfl, rfl⟩⟩ (by have := HTB.out; have := H0.out; omega) (by have := HTB.out; have := H0.out; simp only [maxLen]; omega) (by have := hb2.size; have := HB.out; simp at *; omega) ?_; intro A9 c9 w9 hO9 hg9 hor9; have hT9 : Tch (A0.map (·.block)).toList w w9 := hT2.trans (Tch.grown hg9)))
  have HO9 := Lib.hid hO9
  have HT9 := Lib.hid hT9
  clear hO9 hg9 hor9 hb2 hT2 hT9
  go_wp2_with fail
  go_ret
  exact ⟨A9, c9, by simp, HO9.out, HT9.out⟩
theorem below_tch {B : Nat} {w0 w w' : World} {L : List Nat} (h : Below B w0 w) (ht : Tch L w w') (hL : ∀ k ∈ L, B ≤ k) (hB : B ≤ w.heap.size) : Below B w0 w' :=
  h.trans ⟨ht.os, ht.tape, ht.output, ht.size, fun k hk => ht.block k (by omega) (fun hm => by have := hL k hm; omega)⟩
theorem hmWrite (h kind : Nat) (key li text : List UInt8) (A : Option Addr) (n c : Nat) (hn : text.length = n) (hl : li.length + n ≤ 900000) (w0 w : World) (hm : HM w0 w h kind key li) (hr : Rd w A (vs text)) :
    Calls Tryd.prog 100 #[.pointer (some ⟨h, 0, none⟩), .slice A n c] w fun e w' => e = .returned (.tuple #[.int .i64 (n : Nat), .nilIface]) ∧ HM w0 w' h kind key (li ++ text) := by
  obtain ⟨⟨O, I, d1, d2, A1, A2, lo, kl, hb, hO, D1, D2, g1, g2, g3, g4⟩, hbel⟩ := hm
  have c3 := (hb.cell 3).trans (rfl : _ = some (Value.iface 132 (.pointer (some ⟨d1, 0, none⟩))))
  have hb64 := toyBlock_le kind
  have HW := Lib.hid (digWrite d1 kind A1 (hmPad 54 kind key ++ li) text A n c hn (by rw [List.length_append, hmPad_length]; omega) w D1 hr)
  have HB := Lib.hid (And.intro hb (And.intro hO (And.intro D2 hbel)))
  have HG := Lib.hid (And.intro g1 (And.intro g2 (And.intro g3 g4)))
  have HL := Lib.hid D1.lt
  clear hb hO D1 D2 hbel g1 g2 g3 g4 hb64 hn hl hr
  go_enter Tryd.func100, Tryd.ntmps100
  go_wp2_with fail
  refine HW.out.mono ?_
  rintro e w1 ⟨rfl, A', hD, hfr, hT⟩
  have HD := Lib.hid hD
  have HF := Lib.hid hfr
  have HT := Lib.hid hT
  clear hD hfr hT
  go_wp2_with fail
  go_ret2
  obtain ⟨hb, hO, D2, hbel⟩ := HB.out
  obtain ⟨g1, g2, g3, g4⟩ := HG.out
  have hnh : h ∉ foot d1 A1 := fun hm => Nat.lt_irrefl _ (g3 h hm).1
  have hnO : O ∉ foot d1 A1 := fun hm => (g3 O hm).2 rfl
  have hf : ∀ k ∈ foot d1 A', k ∈ foot d1 A1 ∨ w.heap.size ≤ k := HF.out.foot
  have hhl := hb.lt
  refine ⟨rfl, ⟨⟨O, I, d1, d2, A', A2, lo, kl, hb.tch HT.out hnh, hO.tch HT.out hnO, by rw [← List.append_assoc]; exact HD.out, D2.tch HT.out (fun k hk => (g4 k hk).2.2), g1, Nat.lt_of_lt_of_le g2 HT.out.size, ?_, ?_⟩, ?_⟩⟩
  · intro k hk
    rcases hf k hk with h1 | h1
    · exact g3 k h1
    · omega
  · intro k hk
    refine ⟨(g4 k hk).1, (g4 k hk).2.1, fun hm => ?_⟩
    rcases hf k hm with h1 | h1
    · exact (g4 k hk).2.2 h1
    · have := D2.lt k hk; omega
  · exact hbel.trans ⟨HT.out.os, HT.out.tape, HT.out.output, HT.out.size, fun k hk => HT.out.block k (by omega) (fun hm => by have := (g3 k hm).1; omega)⟩
set_option maxHeartbeats 4000000 in
/-- What a keyed hash tells. -/
theorem hmSum (h kind : Nat) (hk : kind < 64) (key li : List UInt8) (hl : li.length ≤ 900000) (w0 w : World) (hm : HM w0 w h kind key li) :
    Calls Tryd.prog 101 #[.pointer (some ⟨h, 0, none⟩), .slice none 0 0] w fun e w' => ∃ A' c', e = .returned (.slice A' (toySize kind) c') ∧ Own w' h 1 A' (toySize kind) c' (vs (toyHmac kind key li)) ∧ Below h w0 w' := by
  obtain ⟨⟨O, I, d1, d2, A1, A2, lo, kl, hb, hO, D1, D2, g1, g2, g3, g4⟩, hbel⟩ := hm
  have c0 := (hb.cell 0).trans (rfl : _ = some (Value.slice (some ⟨O, 0, none⟩) (toyBlock kind) (toyBlock kind)))
  have c2 := (hb.cell 2).trans (rfl : _ = some (Value.iface 132 (.pointer (some ⟨d2, 0, none⟩))))
  have c3 := (hb.cell 3).trans (rfl : _ = some (Value.iface 132 (.pointer (some ⟨d1, 0, none⟩))))
  have c4 := (hb.cell 4).trans (rfl : _ = some (Value.bool false))
  have hb64 := toyBlock_le kind
  have hs32 := toySize_le kind
  have HS := Lib.hid (digSum d1 kind A1 (hmPad 54 kind key ++ li) hk (by rw [List.length_append, hmPad_length]; omega) w D1)
  have hs1 : (toySum kind (hmPad 54 kind key ++ li)).length = toySize kind := toySum_length _ _
  have hp1 : (hmPad 92 kind key).length = toyBlock kind := hmPad_length _ _ _
  have HE : Hid (toyHmac kind key li = toySum kind (hmPad 92 kind key ++ toySum kind (hmPad 54 kind key ++ li))) := Lib.hid rfl
  obtain ⟨s1, hs1e⟩ : ∃ s, toySum kind (hmPad 54 kind key ++ li) = s := ⟨_, rfl⟩
  obtain ⟨p1, hp1e⟩ : ∃ s, hmPad 92 kind key = s := ⟨_, rfl⟩
  obtain ⟨m, hme⟩ : ∃ m, toyBlock kind = m := ⟨_, rfl⟩
  rw [hs1e] at HS hs1 HE
  rw [hp1e] at hp1 HE hO
  rw [hme] at hp1 c0 hb64 hb
  have HSZ : Hid (toySum kind (p1 ++ s1) = toyHmac kind key li) := Lib.hid HE.out.symm
  obtain ⟨nk, hnk⟩ : ∃ nk, toySize kind = nk := ⟨_, rfl⟩
  have HNK := Lib.hid hnk
  rw [hnk] at HS hs1 hs32 ⊢
  have HB := Lib.hid (And.intro hb (And.intro hO (And.intro D2 hbel)))
  have HG := Lib.hid (And.intro g1 (And.intro g2 (And.intro g3 g4)))
  have HP := Lib.hid hp1
  have HS1 := Lib.hid hs1
  have HK := Lib.hid hk
  have HHL := Lib.hid hb.lt
  clear hb hO D1 D2 hbel g1 g2 g3 g4 hk hl hs1e hp1e hme hnk hp1 hs1 HE
  go_enter Tryd.func101, Tryd.ntmps101
  go_wp2_with fail
  refine HS.out.mono ?_
  rintro e w1 ⟨K, ck, rfl, hOK, hHi, hbb⟩
  have hckk : nk ≤ ck := hOK.2.1
  obtain ⟨kb, rfl⟩ : ∃ kb, K = some ⟨kb, 0, none⟩ := by
    rcases hHi with rfl | ⟨kb, rfl, _⟩
    · obtain ⟨b, o, h1⟩ := Rd.addr hOK.rd (by intro e; rw [e] at HS1; have := HS1.out; simp at this; omega)
      cases h1
    · exact ⟨kb, rfl⟩
  have hkb : w.heap.size ≤ kb := by
    rcases hHi with h1 | ⟨a, h1, h2⟩
    · cases h1
    · injection h1 with h1; injection h1 with h1; omega
  have HOK := Lib.hid hOK
  have HBB := Lib.hid hbb
  replace c0 := keep_of_below hbb _ _ c0
  replace c2 := keep_of_below hbb _ _ c2
  replace c4 := keep_of_below hbb _ _ c4
  have HR := Lib.hid (digReset d2 kind A2 lo w1 (HB.out.2.2.1.keep hbb))
  clear c3 hOK hbb hHi
  go_wp2_with fail
  refine HR.out.mono ?_
  rintro e w2 ⟨rfl, hD2, hT2⟩
  have HT2 := Lib.hid hT2
  have hg := HG.out
  have hd2 : d2 < w.heap.size := HB.out.2.2.1.lt d2 (by simp [foot])
  have hd2h : h < d2 ∧ d2 ≠ O := by have := hg.2.2.2 d2 (by simp [foot]); exact ⟨this.1, this.2.1⟩
  have B2 := Lib.hid ((HB.out.1.keep HBB.out).tch hT2 (by simp; omega))
  have O2 := Lib.hid ((HB.out.2.1.keep HBB.out).tch hT2 (by simp; omega))
  have K2 := Lib.hid (HOK.out.tch hT2 (.inr ⟨kb, rfl, by simp; omega⟩))
  have D2 := Lib.hid hD2
  clear hD2 hT2 hg c0 c2 c4
  have q0 : w2.drew.cell? ⟨h, 0, none⟩ = some (.slice (some ⟨O, 0, none⟩) m m) := B2.out.cell 0
  have q2 : w2.drew.cell? ⟨h, 2, none⟩ = some (.iface 132 (.pointer (some ⟨d2, 0, none⟩))) := B2.out.cell 2
  have hmw := m_write d2
  have HW := Lib.hid (digWrite d2 kind none [] p1 (some ⟨O, 0, none⟩) m m HP.out (by simp; omega) w2.drew (D2.out.keep (below_drew _)) O2.out)
  go_wp2_with fail
  go_region_held_law (fun w' => w'.cell? ⟨h, 0, none⟩ = some (.slice (some ⟨O, 0, none⟩) m m) ∧ w'.cell? ⟨h, 2, none⟩ = some (.iface 132 (.pointer (some ⟨d2, 0, none⟩))))
    (first | exact ⟨q0, q2⟩ | exact ⟨B3.cell 0, B3.cell 2⟩)
    (first | (go_at_call 150; with_reducible refine HW.out.mono ?_; rintro e w3 ⟨rfl, A3, hD3, hfr3, hT3⟩; have B3 := B2.out.drew.tch hT3 (by simp [foot]; omega)))
  have HT3 := Lib.hid hT3
  have HF3 := Lib.hid hfr3
  have D3 := Lib.hid hD3
  have HB3 := Lib.hid B3
  have K3 := Lib.hid (K2.out.drew.tch hT3 (.inr ⟨kb, rfl, by simp [foot]; omega⟩))
  clear q0 q2 hT3 hfr3 hD3 B3 HW
  have hkb1 : kb < w2.heap.size := K2.out.lo (by omega) kb rfl
  have ck0 : ¬ ck = 0 := by omega
  have hcki : (nk : Int) ≤ ck := by omega
  have q2 : w3.drew.cell? ⟨h, 2, none⟩ = some (.iface 132 (.pointer (some ⟨d2, 0, none⟩))) := HB3.out.cell 2
  have HW := Lib.hid (digWrite d2 kind A3 ([] ++ p1) s1 (some ⟨kb, 0, none⟩) nk ck HS1.out (by simp; have := HP.out; omega) w3.drew (D3.out.keep (below_drew _)) K3.out.drew.rd)
  have hf3 : ∀ k ∈ foot d2 A3, k = d2 ∨ w2.heap.size ≤ k := fun k hk => (HF3.out.foot k hk).imp (fun h1 => by simpa [foot] using h1) id
  have hs2 : w.heap.size ≤ w2.heap.size := Nat.le_trans HBB.out.size HT2.out.size
  have hn3 : h ∉ foot d2 A3 := fun hm => by rcases hf3 h hm with h1 | h1 <;> (have := HHL.out; omega)
  have hk3 : kb ∉ foot d2 A3 := fun hm => by rcases hf3 kb hm with h1 | h1 <;> omega
  have Hf3 := Lib.hid hf3
  clear hf3
  go_wp2_with fail
  go_region_held_law (fun w' => w'.cell? ⟨h, 2, none⟩ = some (.iface 132 (.pointer (some ⟨d2, 0, none⟩))))
    (first | exact q2 | exact B4.cell 2)
    (first | (go_at_call 150; with_reducible refine HW.out.mono ?_; rintro e w4 ⟨rfl, A4, hD4, hfr4, hT4⟩; have B4 := HB3.out.drew.tch hT4 hn3))
  have HT4 := Lib.hid hT4
  have hf4 : ∀ k ∈ foot d2 A4, k = d2 ∨ w2.heap.size ≤ k := fun k hk => by
    rcases hfr4.foot k hk with h1 | h1
    · exact Hf3.out k h1
    · have h2 : w3.heap.size ≤ k := h1
      have h3 : w2.heap.size ≤ w3.heap.size := HT3.out.size
      right; omega
  have hk4 : ∀ k ∈ foot d2 A4, k ∉ ((some ⟨kb, 0, none⟩ : Option Addr).map (·.block)).toList := fun k hk hm => by
    simp at hm; subst hm
    rcases hf4 _ hk with h1 | h1 <;> omega
  have D4 := Lib.hid hD4
  have HB4 := Lib.hid B4
  have K4 := Lib.hid (own_cut (K3.out.drew.tch hT4 (.inr ⟨kb, rfl, hk3⟩)))
  have q2 : w4.drew.cell? ⟨h, 2, none⟩ = some (.iface 132 (.pointer (some ⟨d2, 0, none⟩))) := B4.cell 2
  have hsz4 : h ≤ w4.drew.heap.size := Nat.le_of_lt HB4.out.lt
  have HW5 := Lib.hid (digSumOn d2 kind A4 (([] ++ p1) ++ s1) HK.out (by simp; have := HP.out; have := HS1.out; omega) (some ⟨kb, 0, none⟩) 0 ck h [] (by omega) w4.drew (D4.out.keep (below_drew _)) (own_base K4.out.drew (by have := HHL.out; omega)) hsz4 hk4)
  have hms := m_sum d2
  clear hT4 hD4 B4 HW hf4 hk4 hfr4 hn3 hk3 hmw
  go_wp2_with fail
  go_region_held_law (fun w' => w'.cell? ⟨h, 2, none⟩ = some (.iface 132 (.pointer (some ⟨d2, 0, none⟩))))
    (first | exact q2 | exact B5.cell 2)
    (first | (go_at_call 149; with_reducible refine HW5.out.mono ?_; rintro e w5 ⟨A5, c5, rfl, hO5, hT5⟩; have B5 := HB4.out.drew.tch hT5 (by simp; have := HHL.out; omega)))
  have HO5 := Lib.hid hO5
  have HT5 := Lib.hid hT5
  clear hO5 hT5 B5 HW5 q2
  go_wp2_with fail
  go_ret
  have h1 := HO5.out
  rw [List.nil_append, List.nil_append, Nat.zero_add, HSZ.out, HNK.out] at h1
  refine ⟨A5, c5, by simp [HNK.out], h1, ?_⟩
  have hhl := HHL.out
  have b1 : Below h w0 w1 := HB.out.2.2.2.trans (HBB.out.mono (by omega))
  have b2 := below_tch b1 HT2.out (by simp; omega) (by have := HBB.out.size; omega)
  have z2 : h ≤ w2.heap.size := by omega
  have z3 : h ≤ w3.heap.size := by have : w2.heap.size ≤ w3.heap.size := HT3.out.size; omega
  have b3 := below_tch b2.drew HT3.out (by simp [foot]; omega) z2
  have b4 := below_tch b3.drew HT4.out (fun k hk => by rcases Hf3.out k hk with h2 | h2 <;> omega) z3
  exact below_tch b4.drew HT5.out (by simp; omega) hsz4
end Go.Proofs.YtpedkkmoplbdhaaDoor
