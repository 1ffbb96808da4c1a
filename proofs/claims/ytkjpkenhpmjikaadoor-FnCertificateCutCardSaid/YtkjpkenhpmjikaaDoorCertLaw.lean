/- Walks: the law of certificates that lack bytes. -/
import Derived.Test.YtkjpkenhpmjikaaDoorCertData
import Derived.Test.YtkjpkenhpmjikaaDoorTexts
namespace Go.Proofs.YtkjpkenhpmjikaaDoor
open Go.RowKit Go.Cv
set_option maxRecDepth 100000
set_option linter.unusedVariables false
theorem ccut_of (x y z : UInt8) (s : List UInt8) (hn : x.toNat * 65536 + y.toNat * 256 + z.toNat = s.length) (h6 : s.length ≤ 60000) (j : Nat) (hj : j < s.length + 3) : CCut ((x :: y :: z :: s).take j) := by
  by_cases h3 : j < 3
  · exact .inl (by simp; omega)
  · obtain ⟨i, rfl⟩ : ∃ i, j = i + 3 := ⟨j - 3, by omega⟩
    exact .inr ⟨x, y, z, s.take i, rfl, by omega, by rw [hn]; simp; omega⟩
theorem ctc_nil (A : Option Addr) (c : Nat) (x : Int) (w : World) :
    Calls Tryd.prog 13 #[.slice A 0 c, .int .i64 x] w fun e w' => e = .returned (.bool true) ∧ Below w.heap.size w w' := by
  go_enter Tryd.func13, Tryd.ntmps13
  go_wp2_with fail
  refine (fits0 A c w).mono ?_
  rintro e w1 ⟨rfl, rfl⟩
  go_wp2_with fail
  refine (between0 A c _ _ w).mono ?_
  rintro e w1 ⟨rfl, rfl⟩
  go_wp2_with fail
  go_ret
  exact ⟨rfl, Below.refl _ _⟩
theorem ctc_fits (A : Option Addr) (n c : Nat) (x : Int) (w : World) (HF : Hid (Calls Tryd.prog 35 #[.slice A n c] w fun e w' => e = .returned (.bool false) ∧ w = w')) :
    Calls Tryd.prog 13 #[.slice A n c, .int .i64 x] w fun e w' => e = .returned (.bool true) ∧ Below w.heap.size w w' := by
  go_enter Tryd.func13, Tryd.ntmps13
  go_wp2_with fail
  refine HF.out.mono ?_
  rintro e w1 ⟨rfl, rfl⟩
  go_wp2_with fail
  go_ret
  exact ⟨rfl, Below.refl _ _⟩
set_option maxHeartbeats 2000000 in
theorem ctc_any (b o n c : Nat) (x : Int) (zs : List (List UInt8)) (hl : zs.length = n) (h0 : 0 < n) (h1 : decide ((2147483647 : Int) < n) = false) (HN : Hid ((n : Int) ≤ 2147483647)) (w : World) (hr : Rd w (some ⟨b, o, none⟩) (sv zs)) (ad0 ad1 : Addr)
    (hg0 : w.cell? ⟨12, 0, none⟩ = some (.iface 210 (.pointer (some ad0)))) (hg1 : w.cell? ⟨13, 0, none⟩ = some (.iface 210 (.pointer (some ad1)))) :
    Calls Tryd.prog 13 #[.slice (some ⟨b, o, none⟩) n c, .int .i64 x] w fun e w' => e = .returned (.bool true) ∧ Below w.heap.size w w' := by
  have HFT := Lib.hid (fits_any b o n c zs hl h1 w hr)
  have HBT := Lib.hid (fun hf => between_any b o n c 1 20000 zs hl h0 HN.out hf w hr)
  have HTX := Lib.hid (fun hn hT w hr => texts_any b o n c zs hl hn hT w hr)
  have HR := Lib.hid hr
  have HL := Lib.hid hl
  have HG0 := Lib.hid hg0
  have HG1 := Lib.hid hg1
  have H0 := Lib.hid h0
  clear hr hl hg0 hg1 h0 h1
  go_enter Tryd.func13, Tryd.ntmps13
  go_wp2_with fail
  refine HFT.out.mono ?_
  rintro e w1 ⟨d, rfl, hd, rfl⟩
  cases d with
  | false =>
    clear hd
    go_wp2_with fail
    go_ret
    exact ⟨rfl, Below.refl _ _⟩
  | true =>
    have hfit := Lib.hid (hd rfl)
    clear hd HFT
    go_wp2_with fail
    refine (HBT.out hfit.out).mono ?_
    rintro e w1 ⟨d, rfl, hd, rfl⟩
    cases d with
    | false =>
      clear hd
      go_wp2_with fail
      go_ret
      exact ⟨rfl, Below.refl _ _⟩
    | true =>
      obtain ⟨hfw, hT⟩ := hd rfl
      have hzp : ∀ v ∈ zs, 0 < List.length v := fun v hv => (hfw v hv).1
      have hcnt := txt_count zs hzp
      have hn6 : (n : Int) ≤ 100000 := by have := HL.out; omega
      have HX := Lib.hid (HTX.out hn6 hT w HR.out)
      have HV := Lib.hid (fun w => vec_any 3 (by omega) (txt zs) (small_vec hT) w)
      obtain ⟨m, hm⟩ : ∃ m, be 3 (txt zs).length ++ txt zs = m := ⟨_, rfl⟩
      rw [hm] at HV
      obtain ⟨p, q, u, hbe, hpq⟩ := be3_parts (txt zs).length (by omega)
      have hm' : m = p :: q :: u :: txt zs := by rw [← hm, hbe]; rfl
      have hml : m.length = (txt zs).length + 3 := by rw [hm']; simp
      have h7 : (S m).size = m.length := S_size m
      have HO := Lib.hid (fun w => certRead_ok m p q u zs hm' (txt zs).length n hpq rfl hT HL.out H0.out hzp w)
      have HNC : Hid (∀ y : Nat, 1 ≤ y → ∀ w ad0 ad1 hg0 hg1, Calls Tryd.prog 38 #[.string (S (m.take (m.length - y)))] w fun e w' => e = .returned (.tuple #[.agg (crMsg 0 none 0 0), .bool false]) ∧ Below w.heap.size w w') := fun y hy w ad0 ad1 hg0 hg1 =>
        certRead_no (m.take (m.length - y)) (by rw [hm']; exact ccut_of p q u (txt zs) hpq hT _ (by simp; omega)) (by simp; omega) w ad0 ad1 hg0 hg1
      have HML : Hid (m.length ≤ 60003) := Lib.hid (by omega)
      clear hfw hT hzp hcnt hn6 hm hbe hpq hm' hml HTX HBT hfit
      go_wp2_with fail
      refine HX.out.mono ?_
      rintro e w1 ⟨rfl, hb1⟩
      go_wp2_with fail
      refine (HV.out w1).mono ?_
      rintro e w2 ⟨rfl, hb2⟩
      have hb3 := below_two hb1 hb2
      clear hb1 hb2 HX HV
      by_cases c1 : x < 1
      · have t1 : decide (x < 1) = true := by simpa using c1
        go_wp2_with fail
        go_ret
        exact ⟨rfl, hb3⟩
      · have t1 : decide (x < 1) = false := by simpa using c1
        obtain ⟨y, rfl⟩ : ∃ y : Nat, x = y := ⟨x.toNat, by omega⟩
        by_cases c2 : (m.length : Int) < y
        · have t2 : decide ((m.length : Int) < y) = true := by simpa using c2
          have t2' : m.length < y := by omega
          clear c1 c2
          go_wp2_with fail
          go_ret
          exact ⟨rfl, hb3⟩
        · have hx := S_extract m 0 (m.length - y)
          simp only [List.drop_zero] at hx
          have HC := Lib.hid (HNC.out y (by omega))
          have i1 : (1 : Int) ≤ y := by omega
          have iF : (0 : Int) ≤ (m.length : Int) - y := by omega
          have iG : (m.length : Int) - y ≤ m.length := by omega
          have iH : ((m.length : Int) - y).toNat = m.length - y := by omega
          have hw : wrap64 ((m.length : Int) - y) = (m.length : Int) - y := (wrap_any _ (by omega) (by have := HML.out; omega)).1
          have n1 : ¬ m.length < y := by omega
          have n2 : ¬ y < 1 := by omega
          clear i1 c1 c2 HNC
          go_wp2_with fail
          refine (HO.out w2).mono ?_
          rintro e w4 ⟨A4, c4, rfl, hb5⟩
          have hb6 := below_two hb3 hb5
          clear hb3 hb5
          go_wp2_with (with_reducible refine Held.store 58 ?_)
          refine held_store_new (cells := crMsg 11 A4 n c4) crInfo rfl rfl rfl (by simp [crMsg, Value.oneCell']) fun w5 _ hb7 _ => ?_
          have hb8 := below_two hb6 hb7
          have hg05 := keep_of_below hb8 _ _ HG0.out
          have hg15 := keep_of_below hb8 _ _ HG1.out
          have HCC := Lib.hid (HC.out w5 ad0 ad1 hg05 hg15)
          clear hb6 hb7 hg05 hg15 HC
          go_wp2_with fail
          refine HCC.out.mono ?_
          rintro e w7 ⟨rfl, hb9⟩
          have hb10 := below_two hb8 hb9
          go_wp2_with (with_reducible refine Held.store 58 ?_)
          refine held_store_new (cells := crMsg 0 none 0 0) crInfo rfl rfl rfl (by simp [crMsg, Value.oneCell']) fun w9 _ hb11 _ => ?_
          go_wp2_with fail
          go_ret
          exact ⟨rfl, below_two hb10 hb11⟩
theorem ctc_row (A : Option Addr) (n c : Nat) (z : List (List UInt8)) (hz : z.length = n) (hnc : n ≤ c) (w : World) (hr : Rd w A (z.map fun l => Value.string (S l))) (x : Int) (wx : (Lit.int .i64 x).wf = true) (ad0 : Addr) (hg0 : w.cell? ⟨12, 0, none⟩ = some (.iface 210 (.pointer (some ad0)))) (ad1 : Addr) (hg1 : w.cell? ⟨13, 0, none⟩ = some (.iface 210 (.pointer (some ad1)))) :
    Calls Tryd.prog 13 #[.slice A n c, .int .i64 x] w fun e w' => e = .returned (.bool true) ∧ Below w.heap.size w w' := by
  by_cases h0 : 0 < n
  case neg =>
    obtain rfl : n = 0 := by omega
    exact ctc_nil A c x w
  by_cases h1 : (2147483647 : Int) < n
  · exact ctc_fits A n c x w (Lib.hid (fits_big A n c (by simpa using h1) w))
  · rcases hr with hr | ⟨b, o, rfl, hr⟩
    · have := congrArg List.length hr
      have h0' : z.length = 0 := by simpa using this
      rw [hz] at h0'
      exact absurd h0 (by rw [h0']; exact Nat.lt_irrefl 0)
    · exact ctc_any b o n c x z hz h0 (by simpa using h1) (Lib.hid (Int.not_lt.1 h1)) w (.inr ⟨b, o, rfl, hr⟩) ad0 ad1 hg0 hg1
end Go.Proofs.YtkjpkenhpmjikaaDoor
