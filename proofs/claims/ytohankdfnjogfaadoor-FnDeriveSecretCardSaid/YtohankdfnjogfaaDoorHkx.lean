/- Walks: the key that is expanded from a secret, one hash long. -/
import Derived.Test.YtohankdfnjogfaaDoorHmSum
import Derived.Test.YtohankdfnjogfaaDoorTop
namespace Go.Proofs.YtohankdfnjogfaaDoor
open Go.RowKit Go.Cv
set_option maxRecDepth 100000
set_option linter.unusedVariables false
theorem HM.keep {w0 w w' : World} {h kind : Nat} {key li : List UInt8} (m : HM w0 w h kind key li) (hb : Below w.heap.size w w') : HM w0 w' h kind key li := by
  obtain ⟨⟨O, I, d1, d2, A1, A2, lo, kl, hbk, hO, D1, D2, g1, g2, g3, g4⟩, hbel⟩ := m
  have hlt := hbk.lt
  exact ⟨⟨O, I, d1, d2, A1, A2, lo, kl, hbk.keep hb, hO.keep hb, D1.keep hb, D2.keep hb, g1, Nat.lt_of_lt_of_le g2 hb.size, g3, g4⟩, hbel.trans (hb.mono (Nat.le_of_lt hlt))⟩
theorem HM.lt {w0 w : World} {h kind : Nat} {key li : List UInt8} (m : HM w0 w h kind key li) : h < w.heap.size := by
  obtain ⟨⟨O, I, d1, d2, A1, A2, lo, kl, hbk, _⟩, _⟩ := m
  exact hbk.lt
set_option maxHeartbeats 4000000 in
theorem expandOne (b kind : Nat) (hk : kind < 64) (A1 : Option Addr) (n1 c1 : Nat) (key info : List UInt8) (hn1 : key.length = n1) (hs1 : n1 ≤ 50000) (hs2 : info.length ≤ 50000) (w : World)
    (hb : w.cell? ⟨b, 0, none⟩ = some (.int .i64 (kind : Nat))) (hr1 : Rd w A1 (vs key)) :
    Calls Tryd.prog 31 #[.func (Fn.func 17) #[] #[.pointer (some ⟨b, 0, none⟩)], .slice A1 n1 c1, .string (S info), .int .i64 (toySize kind : Nat)] w fun e w' => ∃ A' c', e = .returned (.slice A' (toySize kind) c') ∧ Rd w' A' (vs (toyHmac kind key (info ++ [1]))) ∧ Below w.heap.size w w' := by
  have HN := Lib.hid (fun W (h : Below w.heap.size w W) => newHmac b kind hk A1 n1 c1 key hn1 (by omega) W (keep_of_below h _ _ hb) (hr1.keep h))
  have HW0 := Lib.hid (fun (h : Nat) (w0 w' : World) (m : HM w0 w' h kind key []) => hmWrite h kind key [] [] none 0 0 rfl (by simp) w0 w' m (.inl rfl))
  have HW1 := Lib.hid (fun (h : Nat) (w0 w' : World) (A : Option Addr) (c : Nat) (m : HM w0 w' h kind key []) (hr : Rd w' A (vs info)) => hmWrite h kind key [] info A info.length c rfl (by simp; omega) w0 w' m hr)
  have HW2 := Lib.hid (fun (h : Nat) (w0 w' : World) (A : Option Addr) (c : Nat) (m : HM w0 w' h kind key info) (hr : Rd w' A (vs [1])) => hmWrite h kind key info [1] A 1 c rfl (by omega) w0 w' m hr)
  have HSU := Lib.hid (fun (h : Nat) (w0 w' : World) (m : HM w0 w' h kind key (info ++ [1])) => hmSum h kind hk key (info ++ [1]) (by simp; omega) w0 w' m)
  have hTL : Hid ((toyHmac kind key (info ++ [1])).length = toySize kind) := Lib.hid (toyHmac_length _ _ _)
  have hs32 := toySize_le kind
  have hs0 : 4 ≤ toySize kind := by unfold toySize; omega
  have HI := Lib.hid hs2
  obtain ⟨s, hs⟩ : ∃ s, toySize kind = s := ⟨_, rfl⟩
  obtain ⟨tx, htx⟩ : ∃ t, toyHmac kind key (info ++ [1]) = t := ⟨_, rfl⟩
  rw [hs] at HSU hTL hs32 hs0 ⊢
  rw [htx] at HSU hTL ⊢
  clear hb hr1 hn1 hs1 hs2 hk hs htx
  go_enter Tryd.func31, Tryd.ntmps31
  go_wp2_with fail
  refine upon_make 30 5 (.int .u8 0) 1 Tryd.underlying30 t_u8info rfl 0 s rfl rfl (Nat.zero_le _) (by omega) (by simp only [maxLen]; omega) ?_
  intro w1 hO1 hb1 hz1
  have HO1 := Lib.hid hO1
  have HB1 := Lib.hid hb1
  have HZ1 := Lib.hid hz1
  clear hO1 hb1 hz1
  go_wp2_with fail
  refine (HN.out w1 HB1.out).mono ?_
  rintro e w2 ⟨h, rfl, hh, hm⟩
  have HM2 := Lib.hid hm
  have HH := Lib.hid hh
  clear hm hh HN
  go_wp2_with fail
  obtain ⟨p, hp⟩ : ∃ p, w.heap.size = p := ⟨_, rfl⟩
  have HP := Lib.hid hp
  rw [hp] at HO1 HB1 ⊢
  rw [hp] at HZ1
  clear hp
  have t1 : (0 : Int) < s := by omega
  have t2 : ¬ (s : Int) < s := by omega
  have t3 : decide ((s : Int) < s) = false := by simp
  go_loopw [9, 11, 12] (fun o k bf wr => (o = .slice (some ⟨p, 0, none⟩) 0 s ∧ k = .int .u8 0 ∧ bf = .slice none 0 0 ∧ wr = w2) ∨ (∃ A c, o = .slice A s c ∧ k = .int .u8 1 ∧ Hid (Rd wr A (vs tx) ∧ Below p w wr))) (fun _ k _ _ => 1 - (intOf k).toNat)
  case atStart => exact .inl ⟨rfl, rfl, rfl, rfl⟩
  case round =>
    rcases hrel with ⟨rfl, rfl, rfl, rfl⟩ | ⟨A, c, rfl, rfl, HJ⟩
    · go_wp2_with fail
      refine (HW0.out h w1 _ HM2.out).mono ?_
      rintro e w3 ⟨rfl, hm3⟩
      have HM3 := Lib.hid hm3
      clear hm3 HW0
      go_wp2_with fail
      refine upon_conv_sb 9 30 5 Tryd.underlying9 Tryd.underlying30 Tryd.underlying5 info (by have := HI.out; simp only [maxLen]; omega) ?_
      intro c4 w4 hO4 hb4 hlt4
      have HM4 : Hid (HM w1 w4 h kind key []) := Lib.hid (HM3.out.keep hb4)
      have HR4 := Lib.hid hO4.rd
      clear hO4 hb4 hlt4
      go_wp2_with fail
      refine (HW1.out h w1 w4 _ c4 HM4.out HR4.out).mono ?_
      rintro e w5 ⟨rfl, hm5⟩
      have HM5 := Lib.hid hm5
      clear hm5 HW1
      go_wp2_with fail
      refine (HW2.out h w1 _ _ _ (HM5.out.keep (below_alloc _ _)) (by show Rd _ _ [Value.int .u8 1]; exact rd_single _ _ _)).mono ?_
      rintro e w6 ⟨rfl, hm6⟩
      have HM6 := Lib.hid hm6
      clear hm6 HW2
      go_wp2_with fail
      refine (HSU.out h w1 w6 HM6.out).mono ?_
      rintro e w7 ⟨A7, c7, rfl, hO7, hb7⟩
      have HO7 := Lib.hid hO7
      have HB7 := Lib.hid hb7
      have hc7 : s ≤ c7 := hO7.2.1
      have i1 : (s : Int) ≤ c7 := by omega
      have i2 : ¬ (c7 : Int) < s := by omega
      have e1 : wrap64 ((s : Int) - 0) = s := by unfold wrap64; omega
      clear hO7 hb7
      go_wp2_with (at_builtin; refine Held.on ?_)
      have HK1 : Hid (Below w1.heap.size w1 w7) := Lib.hid (by rw [← HH.out]; exact HB7.out)
      have hp1 := HZ1.out
      refine held_append rfl (.tmp 55) (.tmp 58) 30 30 rfl p 5 _ 1 1 Tryd.underlying30 (.inl Tryd.underlying30) t_u8info rfl (by omega) (xs := []) (ys := vs tx) (m := s) rfl rfl (HO1.out.keep HK1.out) ⟨by rw [vs_length, hTL.out, Nat.mul_one], vs_one _, .inl ⟨A7, c7, rfl, HO7.out.rd⟩⟩ (by omega) (by simp only [maxLen]; omega) (by have := HK1.out.size; omega) ?_
      intro A8 c8 w8 hO8 hg8 hor8
      have HO8 := Lib.hid hO8.rd
      have HB8 : Hid (Below p w w8) := Lib.hid (below_tch (HB1.out.trans (HB7.out.mono (by rw [HH.out]; omega))) (Tch.grown hg8) (by simp) (by have := HK1.out.size; omega))
      clear hO8 hg8 hor8 hp1
      rw [Nat.zero_add]
      go_wp2_with fail
      go_roundw
      case rel => exact .inr ⟨A8, c8, by first | rfl | simp, by first | rfl | simp, Lib.hid ⟨HO8.out, HB8.out⟩⟩
      case measure => simp [intOf]
    · go_wp2_with fail
      go_ret
      have h9 := HJ.out
      have h10 : Below w.heap.size w wr := by rw [HP.out]; exact h9.2
      exact ⟨A, ⟨c, by first | rfl | simp⟩, h9.1, h10⟩
theorem hashSize (b kind : Nat) (hk : kind < 64) (w : World) (hb : w.cell? ⟨b, 0, none⟩ = some (.int .i64 (kind : Nat))) :
    Calls Tryd.prog 17 #[.pointer (some ⟨b, 0, none⟩)] w fun e w' => ∃ d, e = .returned (.iface 46 (.pointer (some ⟨d, 0, none⟩))) ∧ (Calls Tryd.prog 59 #[.pointer (some ⟨d, 0, none⟩)] w' fun e w'' => e = .returned (.int .i64 (toySize kind : Nat)) ∧ w' = w'') ∧ Below w.heap.size w w' :=
  (hashOne b kind w hb).mono fun e w' ⟨d, h1, h2, h3, h4⟩ => ⟨d, h1, digSize d kind none [] hk w' h2, h4⟩
set_option maxHeartbeats 1000000 in
theorem expandOut (b kind : Nat) (hk : kind < 64) (A1 : Option Addr) (n1 c1 : Nat) (key info : List UInt8) (hn1 : key.length = n1) (hs1 : n1 ≤ 50000) (hs2 : info.length ≤ 50000) (w : World)
    (hb : w.cell? ⟨b, 0, none⟩ = some (.int .i64 (kind : Nat))) (hr1 : Rd w A1 (vs key)) :
    Calls Tryd.prog 26 #[.func (Fn.func 17) #[] #[.pointer (some ⟨b, 0, none⟩)], .slice A1 n1 c1, .string (S info), .int .i64 (toySize kind : Nat)] w fun e w' => ∃ A' c', e = .returned (.tuple #[.slice A' (toySize kind) c', .nilIface]) ∧ Rd w' A' (vs (toyHmac kind key (info ++ [1]))) ∧ Below w.heap.size w w' := by
  have H1 := Lib.hid (hashSize b kind hk w hb)
  have H2 := Lib.hid (fun W (h : Below w.heap.size w W) => expandOne b kind hk A1 n1 c1 key info hn1 hs1 hs2 W (keep_of_below h _ _ hb) (hr1.keep h))
  have hs32 := toySize_le kind
  obtain ⟨s, hs⟩ : ∃ s, toySize kind = s := ⟨_, rfl⟩
  rw [hs] at H1 H2 hs32 ⊢
  have e1 : wrap64 ((s : Int) * 255) = (s : Int) * 255 := by unfold wrap64; omega
  have t1 : decide ((s : Int) * 255 < s) = false := by simp; omega
  have t2 : ¬ ((s : Int) * 255 < s) := by omega
  clear hn1 hs1 hs2 hs hb hr1 hk
  go_enter Tryd.func26, Tryd.ntmps26
  go_wp2_with fail
  refine H1.out.mono ?_
  rintro e w1 ⟨d, rfl, h1, hb1⟩
  have HS := Lib.hid h1
  have HB1 := Lib.hid hb1
  clear h1 hb1
  go_wp2_with fail
  refine HS.out.mono ?_
  rintro e w1' ⟨rfl, rfl⟩
  go_wp2_with fail
  refine (H2.out w1 HB1.out).mono ?_
  rintro e w2 ⟨A', c', rfl, hr, hb2⟩
  have HF := Lib.hid (And.intro hr (HB1.out.trans (hb2.mono HB1.out.size)))
  clear hr hb2
  go_wp2_with fail
  go_ret2
  have h9 := HF.out
  first | exact ⟨_, _, rfl, h9.1, h9.2⟩ | exact ⟨⟨_, _, rfl⟩, h9.1, h9.2⟩ | exact ⟨_, rfl, h9.1, h9.2⟩ | exact ⟨A', ⟨c', rfl⟩, h9.1, h9.2⟩ | exact ⟨A', h9.1, h9.2⟩
end Go.Proofs.YtohankdfnjogfaaDoor
