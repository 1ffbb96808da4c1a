/- Walks: the stand-in of an authenticated cipher, in the program. -/
import Derived.Test.YtpedkkmoplbdhaaDoorBase
import Derived.Test.YtpedkkmoplbdhaaDoorSumT
import Derived.Test.YtpedkkmoplbdhaaDoorSumS
import Derived.LoopTactic
import Derived.Deep.RegionHeldLaw
import Derived.StillTailTactics
namespace Go.Proofs.YtpedkkmoplbdhaaDoor
open Go.RowKit Go.Cv
set_option maxRecDepth 100000
set_option linter.unusedVariables false
theorem t_keyed (key : List UInt8) (i : Nat) (hi : i ≤ 1000000) (w : World) : Calls Tryd.prog 132 #[.string (S key), .int .i64 (i : Nat)] w fun e w' => e = .returned (.int .u8 (aKeyed key i).toNat) ∧ w = w' := by
  have hz : (S key).size = key.length := S_size key
  have e1 := u8o i
  obtain ⟨n, hn⟩ : ∃ n, key.length = n := ⟨_, rfl⟩
  rw [hn] at hz
  by_cases h0 : n = 0
  · have HE : Hid (aKeyed key i = UInt8.ofNat i) := Lib.hid (by rw [aKeyed, if_pos (by rw [hn]; exact h0)])
    obtain ⟨xi, hxi⟩ : ∃ x, UInt8.ofNat i = x := ⟨_, rfl⟩
    rw [hxi] at e1 HE
    have t0 : ((n : Int) == 0) = true := by simp; omega
    clear hxi hn
    go_enter Tryd.func132, Tryd.ntmps132
    go_wp2_with fail
    go_ret
    exact ⟨by first | (rw [HE.out]; done) | (rw [HE.out]; rfl), rfl⟩
  · obtain ⟨b, hb⟩ : ∃ b, i % n = b := ⟨_, rfl⟩
    have hbn : b < n := by rw [← hb]; exact Nat.mod_lt _ (by omega)
    have hbi : b ≤ i := by rw [← hb]; exact Nat.mod_le _ _
    have wb := i64_nat b (by omega)
    have HE : Hid (aKeyed key i = key.getD b 0 + UInt8.ofNat i) := Lib.hid (by rw [aKeyed, if_neg (by rw [hn]; exact h0), hn, hb])
    have hix := fun w' => run_index_S (P := Tryd.prog) w' 9 Tryd.underlying9 key .i64 b b rfl (by rw [hn]; exact hbn)
    have hrem : (i : Int).tmod n = (b : Int) := by rw [tmod_nat, hb]
    have hre2 : (i : Int) % n = (b : Int) := by rw [mod_nat, hb]
    obtain ⟨xi, hxi⟩ : ∃ x, UInt8.ofNat i = x := ⟨_, rfl⟩
    obtain ⟨x, hx⟩ : ∃ x, key.getD b 0 = x := ⟨_, rfl⟩
    rw [hxi] at e1 HE
    rw [hx] at HE hix
    have e2 := u8a x xi
    obtain ⟨y, hy⟩ : ∃ y, x + xi = y := ⟨_, rfl⟩
    rw [hy] at e2 HE
    have t0 : ((n : Int) == 0) = false := by simp; omega
    clear hxi hn hb hx hy hbn
    go_enter Tryd.func132, Tryd.ntmps132
    go_wp2_with fail
    go_ret
    exact ⟨by first | (rw [HE.out]; done) | (rw [HE.out]; rfl), rfl⟩
theorem t_stream (key nonce : List UInt8) (i : Nat) (hi : i ≤ 1000000) (w : World) : Calls Tryd.prog 139 #[.string (S key), .string (S nonce), .int .i64 (i : Nat)] w fun e w' => e = .returned (.int .u8 (aStream key nonce i).toNat) ∧ w = w' := by
  have hz : (S nonce).size = nonce.length := S_size nonce
  have HK := Lib.hid (t_keyed key i hi w)
  have e0 := w64_11 i hi
  have e0' := i64_11 i hi
  have e1 := u8o (11 * i)
  obtain ⟨n, hn⟩ : ∃ n, nonce.length = n := ⟨_, rfl⟩
  rw [hn] at hz
  obtain ⟨k, hk⟩ : ∃ k, aKeyed key i = k := ⟨_, rfl⟩
  obtain ⟨m, hm⟩ : ∃ m, UInt8.ofNat (11 * i) = m := ⟨_, rfl⟩
  rw [hk] at HK
  rw [hm] at e1
  have e2 := u8a k m
  obtain ⟨s, hs⟩ : ∃ s, k + m = s := ⟨_, rfl⟩
  rw [hs] at e2
  obtain ⟨q, hq⟩ : ∃ q, 11 * i = q := ⟨_, rfl⟩
  rw [hq] at e0 e0' e1
  by_cases h0 : n = 0
  · have HE : Hid (aStream key nonce i = s) := Lib.hid (by rw [aStream, if_pos (by rw [hn]; exact h0), hk, hm, hs])
    have t0 : decide ((0 : Int) < n) = false := by simp; omega
    clear hn hk hm hs hq hi
    subst h0
    go_enter Tryd.func139, Tryd.ntmps139
    go_wp2_with fail
    refine HK.out.mono ?_
    rintro e w1 ⟨rfl, rfl⟩
    go_wp2_with fail
    go_ret
    exact ⟨by first | (rw [HE.out]; done) | (rw [HE.out]; rfl), rfl⟩
  · obtain ⟨b, hb⟩ : ∃ b, i % n = b := ⟨_, rfl⟩
    have hbn : b < n := by rw [← hb]; exact Nat.mod_lt _ (by omega)
    have hbi : b ≤ i := by rw [← hb]; exact Nat.mod_le _ _
    have wb := i64_nat b (by omega)
    have hix := fun w' => run_index_S (P := Tryd.prog) w' 9 Tryd.underlying9 nonce .i64 b b rfl (by rw [hn]; exact hbn)
    have hrem : (i : Int).tmod n = (b : Int) := by rw [tmod_nat, hb]
    have hre2 : (i : Int) % n = (b : Int) := by rw [mod_nat, hb]
    have HE : Hid (aStream key nonce i = s + nonce.getD b 0 * 3) := Lib.hid (by rw [aStream, if_neg (by rw [hn]; exact h0), hk, hm, hs, hn, hb])
    obtain ⟨x, hx⟩ : ∃ x, nonce.getD b 0 = x := ⟨_, rfl⟩
    rw [hx] at HE hix
    have e3 := u8m3 x
    obtain ⟨x3, hx3⟩ : ∃ y, x * 3 = y := ⟨_, rfl⟩
    rw [hx3] at e3 HE
    have e4 := u8a s x3
    obtain ⟨y, hy⟩ : ∃ y, s + x3 = y := ⟨_, rfl⟩
    rw [hy] at e4 HE
    have t0 : decide ((0 : Int) < n) = true := by simp; omega
    have t1 : ((n : Int) == 0) = false := by simp; omega
    have t2 : 0 < n := by omega
    clear hn hk hm hs hq hb hbn hx hx3 hy hi
    go_enter Tryd.func139, Tryd.ntmps139
    go_wp2_with fail
    refine HK.out.mono ?_
    rintro e w1 ⟨rfl, rfl⟩
    go_wp2_with fail
    go_ret
    exact ⟨by first | (rw [HE.out]; done) | (rw [HE.out]; rfl), rfl⟩
theorem t_mark (key nonce plain ad : List UInt8) (tag : Nat) (h1 : 1 ≤ tag) (h2 : tag ≤ 32) (hs1 : key.length ≤ 100000) (hs2 : nonce.length ≤ 100000) (hs3 : plain.length ≤ 100000) (hs4 : ad.length ≤ 100000) (w : World) :
    Calls Tryd.prog 140 #[.string (S key), .string (S nonce), .string (S plain), .string (S ad), .int .i64 (tag : Nat)] w fun e w' => e = .returned (.string (S (aMark key nonce plain ad tag))) ∧ Below w.heap.size w w' := by
  have C1 := Lib.hid (t_sum 39 key (by omega) (by omega))
  have C2 := Lib.hid (t_sum 39 nonce (by omega) (by omega))
  have C3 := Lib.hid (t_sum 39 ad (by omega) (by omega))
  have l1 := toySum_length 39 key
  have l2 := toySum_length 39 nonce
  have l3 := toySum_length 39 ad
  rw [size39] at l1 l2 l3
  have HM : Hid (aMark key nonce plain ad tag = (toySum 39 (aMarkText key nonce plain ad)).take tag) := Lib.hid rfl
  have hT : aMarkText key nonce plain ad = toySum 39 key ++ toySum 39 nonce ++ toySum 39 ad ++ plain := rfl
  obtain ⟨a1, ha1⟩ : ∃ a, toySum 39 key = a := ⟨_, rfl⟩
  obtain ⟨a2, ha2⟩ : ∃ a, toySum 39 nonce = a := ⟨_, rfl⟩
  obtain ⟨a3, ha3⟩ : ∃ a, toySum 39 ad = a := ⟨_, rfl⟩
  rw [ha1] at C1 l1 hT
  rw [ha2] at C2 l2 hT
  rw [ha3] at C3 l3 hT
  obtain ⟨q1, d1⟩ : ∃ q, a1 ++ a2 = q := ⟨_, rfl⟩
  obtain ⟨q2, d2⟩ : ∃ q, q1 ++ a3 = q := ⟨_, rfl⟩
  obtain ⟨q3, d3⟩ : ∃ q, q2 ++ plain = q := ⟨_, rfl⟩
  rw [d1, d2, d3] at hT
  have m1 : q1.length = 64 := by rw [← d1, List.length_append]; omega
  have m2 : q2.length = 96 := by rw [← d2, List.length_append]; omega
  have m3 : q3.length ≤ 100096 := by rw [← d3, List.length_append]; omega
  have f1 := fun w => run_add_eq (P := Tryd.prog) a1 a2 q1 d1 (by omega) w
  have f2 := fun w => run_add_eq (P := Tryd.prog) q1 a3 q2 d2 (by omega) w
  have f3 := fun w => run_add_eq (P := Tryd.prog) q2 plain q3 d3 (by omega) w
  have f4 : ∀ w, (Op.stringOp .add (S q3) (ByteArray.mk #[])).run Tryd.prog w = .ok (.string (S q3)) w := fun w => run_add_eq (P := Tryd.prog) q3 [] q3 (List.append_nil _) (by omega) w
  have C4 := Lib.hid (t_sum 39 q3 (by omega) (by omega))
  have l4 := toySum_length 39 q3
  rw [size39] at l4
  rw [hT] at HM
  obtain ⟨t, ht⟩ : ∃ t, toySum 39 q3 = t := ⟨_, rfl⟩
  rw [ht] at C4 l4 HM
  have f5 : ∀ w, (Op.stringOp .add (ByteArray.mk #[]) (S t)).run Tryd.prog w = .ok (.string (S t)) w := fun w => run_add_eq (P := Tryd.prog) [] t t rfl (by omega) w
  have zt : (S t).size = 32 := by rw [S_size, l4]
  have t1 : decide ((0 : Int) < tag) = true := by simp; omega
  have t1' : (0 : Int) < tag := by omega
  have t2 : decide ((32 : Int) < tag) = false := by simp; omega
  have t2' : ¬ (32 : Int) < tag := by omega
  have t3 : (tag : Int) ≤ 32 := by omega
  clear hs1 hs2 hs3 hs4 ha1 ha2 ha3 d1 d2 d3 m1 m2 m3 hT ht l1 l2 l3 l4
  go_enter Tryd.func140, Tryd.ntmps140
  go_wp2_with fail
  refine (C1.out _).mono ?_
  rintro e w1 ⟨rfl, b1⟩
  go_wp2_with fail
  refine (C2.out _).mono ?_
  rintro e w2 ⟨rfl, b2⟩
  go_wp2_with fail
  refine (C3.out _).mono ?_
  rintro e w3 ⟨rfl, b3⟩
  have HB := Lib.hid (below_two (below_two b1 b2) b3)
  clear b1 b2 b3
  go_wp2_with fail
  go_loopw [12] (fun o wr => (o = .string (.mk #[]) ∧ wr = w3) ∨ (o = .string (S t) ∧ Hid (Below w.heap.size w wr))) (fun o _ => 32 - (match o with | .string s => s.size | _ => 0))
  case atStart => exact .inl ⟨rfl, rfl⟩
  case round =>
    rcases hrel with ⟨rfl, rfl⟩ | ⟨rfl, HJ⟩
    · go_wp2_with fail
      refine (C4.out _).mono ?_
      rintro e w4 ⟨rfl, b4⟩
      have HB4 := Lib.hid (below_two HB.out b4)
      clear b4
      go_wp2_with fail
      go_roundw
      case rel => exact .inr ⟨by first | rfl | simp, HB4⟩
      case measure => show 32 - (S t).size < 32 - 0; omega
    · go_wp2_with fail
      rw [S_extract, List.drop_zero]
      go_ret
      exact ⟨by rw [HM.out]; rfl, HJ.out⟩
end Go.Proofs.YtpedkkmoplbdhaaDoor
