/- Walks: a list of supported versions, read to its end. -/
import Derived.Test.YtkjpkenhpmjikaaDoorVers
import Derived.Test.YtkjpkenhpmjikaaDoorOps6
import Derived.Outline
namespace Go.Proofs.YtkjpkenhpmjikaaDoor
open Go.RowKit Go.Cv
set_option maxRecDepth 100000
set_option linter.unusedVariables false
theorem versInfo : (Tryd.prog.info? 181).map (fun i => (i.zero, i.size, i.bytes)) = some (some (.agg #[.int .u8 0, .int .u8 0]), 2, 2) := by kernel_rfl
theorem validBytes_ok (y : UInt8) (hy : y = 255 ∨ y = 253 ∨ y = 252) (w : World) :
    Calls Tryd.prog 101 #[.int .u8 254, .int .u8 y.toNat] w fun e w' => e = .returned (.bool true) ∧ w = w' := by
  rcases hy with rfl | rfl | rfl
  all_goals
    go_enter Tryd.func101, Tryd.ntmps101
    go_wp2_with fail
    go_ret
    exact ⟨rfl, rfl⟩
theorem strSkip_ok (p b : Nat) (l : List UInt8) (n : Nat) (w : World) (hs : Str w 168 p b l) (hpb : p ≠ b) (hn : (n : Int) ≤ l.length) (hm : (l.length : Int) ≤ 3000000000) :
    Calls Tryd.prog 102 #[.pointer (some ⟨p, 0, none⟩), .int .i64 n] w fun e w' =>
      e = .returned (.bool true) ∧ Str w' 168 p b (l.drop n) ∧ Tch [p] w w' := by
  have HC := Lib.hid (strRead_ok p b l n w hs hpb hn hm)
  have hE := neNil
  clear hs hn hm
  go_enter Tryd.func102, Tryd.ntmps102
  go_wp2_with fail
  refine HC.out.mono ?_
  rintro e w1 ⟨o, c, rfl, hc, hr, hs1, ht⟩
  go_wp2_with fail
  go_ret
  exact ⟨rfl, hs1, ht⟩
/-- Pairs of bytes that are valid versions. -/
def Vers (l : List UInt8) : Prop := ∀ j, 2 * j < l.length → ∃ y r, l.drop (2 * j) = 254 :: y :: r ∧ (y = 255 ∨ y = 253 ∨ y = 252)
theorem Vers.step {l : List UInt8} (h : Vers l) (j : Nat) (hj : 2 * j < l.length) : ∃ y, l.drop (2 * j) = 254 :: y :: l.drop (2 * (j + 1)) ∧ (y = 255 ∨ y = 253 ∨ y = 252) ∧ l.take (2 * (j + 1)) = l.take (2 * j) ++ [254, y] := by
  obtain ⟨y, r, h1, h2⟩ := h j hj
  have e : l.drop (2 * (j + 1)) = r := by
    have := congrArg (List.drop 2) h1
    rw [List.drop_drop] at this
    simpa [Nat.mul_add] using this
  refine ⟨y, by rw [e]; exact h1, h2, ?_⟩
  have : l.take (2 * (j + 1)) = l.take (2 * j) ++ (l.drop (2 * j)).take 2 := by rw [Nat.mul_add, List.take_add]
  rw [this, h1]; rfl
set_option maxHeartbeats 4000000 in
theorem vers_ok (g b c : Nat) (l ms : List UInt8) (x y z : UInt8) (k : Nat) (hl : l = 0 :: 43 :: x :: y :: z :: ms) (hxy : x.toNat * 256 + y.toNat = ms.length + 1) (hz : z.toNat = ms.length) (hk2 : ms.length = 2 * k) (hk0 : 0 < k) (hv : Vers ms) (w : World)
    (hk : Blk w g 126 #[.slice none 0 0]) (hr : Rd w (some ⟨b, 0, none⟩) (vs l)) (hlc : l.length ≤ c) (hbs : b < w.heap.size) (hgb : g ≠ b) :
    Calls Tryd.prog 67 #[.pointer (some ⟨g, 0, none⟩), .slice (some ⟨b, 0, none⟩) l.length c] w fun e w' =>
      e = .returned .nilIface ∧ ∃ A' c', Blk w' g 126 #[.slice A' k c'] ∧ Rd w' A' (vs ms) ∧ w.grownBy w' (some g) := by
  have hgs := hk.lt
  have hz1 := z.toNat_lt
  obtain ⟨s, hs⟩ : ∃ s, s = z :: ms := ⟨_, rfl⟩
  have hsl : s.length = 2 * k + 1 := by rw [hs]; simp [hk2]
  have hll : l.length = s.length + 4 := by rw [hl, hs]; simp
  have HM : Hid ((l.length : Int) ≤ 3000000000) := Lib.hid (by omega)
  have LM : Hid ((s.length : Int) ≤ 3000000000) := Lib.hid (by omega)
  have HXL : Hid (((x :: y :: s).length : Int) ≤ 3000000000) := Lib.hid (by simp; omega)
  have HKN : Hid (2 * k < 256) := Lib.hid (by omega)
  have hl' : l = 0 :: 43 :: (x :: y :: s) := by rw [hl, hs]
  have HXY : Hid (x.toNat * 256 + y.toNat = s.length) := Lib.hid (by omega)
  have HZ : Hid (z.toNat = 2 * k) := Lib.hid (by omega)
  have hS := Lib.hid (((Str.start (t := 168) hr hlc hbs).alloc (.cells #[.slice none 0 0] 168)).alloc (.cells #[.int .u16 0] 24))
  have hQ := Blk.new ((w.alloc (.cells #[.slice (some ⟨b, 0, none⟩) l.length c] 168)).alloc (.cells #[.slice none 0 0] 168)) 24 #[.int .u16 0]
  have hZ := (Blk.new (w.alloc (.cells #[.slice (some ⟨b, 0, none⟩) l.length c] 168)) 168 #[.slice none 0 0]).alloc (.cells #[.int .u16 0] 24)
  simp only [World.size_alloc] at hQ hZ
  have HQ := Lib.hid hQ
  have HZZ := Lib.hid hZ
  have HL := Lib.hid hl'
  have HSL := Lib.hid hsl
  have HSE := Lib.hid hs
  have HK2 := Lib.hid hk2
  have HK0 := Lib.hid hk0
  have HV := Lib.hid hv
  have HK := Lib.hid (((hk.alloc (.cells #[.slice (some ⟨b, 0, none⟩) l.length c] 168)).alloc (.cells #[.slice none 0 0] 168)).alloc (.cells #[.int .u16 0] 24))
  have es : decide (s.length = 0) = false := by simp; intro h; rw [h] at hsl; simp at hsl
  clear hl hl' hr hk hQ hZ hs hsl hll hxy hz hk2 hk0 hv hz1
  go_enter Tryd.func67, Tryd.ntmps67
  go_wp2_with fail
  refine (strU16_ok w.heap.size b (w.heap.size + 2) l (x :: y :: s) 0 43 HL.out 0 _ hS.out (by omega) HQ.out (by omega) (by omega) HM.out).mono ?_
  rintro e w1 ⟨rfl, hs1, hq1, ht1⟩
  have hk1 := HK.out.tch ht1 (by simp; omega)
  have hz1 := HZZ.out.tch ht1 (by simp)
  have T1 : Tch [g] w w1 := ((((Tch.alloc w _).trans (Tch.alloc _ _)).trans (Tch.alloc _ _)).more (by simp)).then ht1 (by simp)
  have hQ1 := hq1.cell 0
  have hK1 := hk1.cell 0
  simp at hQ1 hK1
  have HS1 := Lib.hid hs1
  have HZ1 := Lib.hid hz1
  have HT1 := Lib.hid T1
  clear hS HQ HZZ HK ht1 hs1 hz1 T1
  go_wp2_with fail
  have HB : Hid (∀ w', Below w1.heap.size w1 w' → w'.cell? ⟨w.heap.size + 2, 0, none⟩ = some (.int .u16 43) ∧ w'.cell? ⟨g, 0, none⟩ = some (.slice none 0 0)) := fun w' h => by
    have q1 := (hq1.keep h).cell 0
    have q2 := (hk1.keep h).cell 0
    simp at q1 q2
    exact ⟨q1, q2⟩
  have HK1 := Lib.hid hk1
  clear hq1 hk1 hQ1 hK1
  go_region_held3 (fun w' => w'.cell? ⟨w.heap.size + 2, 0, none⟩ = some (.int .u16 43) ∧ w'.cell? ⟨g, 0, none⟩ = some (.slice none 0 0)) ((refine HB.out _ ?_; first | ((repeat (first | assumption | exact Below.refl _ _ | refine Below.drew ?_ | refine Below.setCell ?_ (by first | omega | (simp; done) | (simp; omega)) _ | refine Below.alloc ?_ (by first | omega | (simp; done) | (simp; omega)) _)); done) | exact below_two (below_drew _) (by assumption)))
    (first | (go_at_call 100; refine (versType _ _).mono ?_; rintro e w2 ⟨rfl, hb2⟩))
  have hb2' : Below w1.heap.size w1 w2 := below_two (below_drew _) hb2
  have hs2 := HS1.out.tch (Tch.below hb2' []) (by simp) (by simp)
  have HZ2 := Lib.hid (HZ1.out.tch (Tch.below hb2' []) (by simp))
  have HT2 := Lib.hid (HT1.out.then (Tch.below hb2' []) (by simp))
  have HK2' := Lib.hid (HK1.out.keep hb2')
  clear hb2 hb2' HB HS1 HZ1 HT1 HK1
  go_wp2_with fail
  refine (str16_ok w.heap.size b (w.heap.size + 1) (x :: y :: s) s s [] x y s.length rfl HXY.out (by simp) rfl (.slice none 0 0) w2 hs2 (by omega) HZ2.out (by omega) (by omega) HXL.out).mono ?_
  rintro e w5 ⟨rfl, hs5, _, ht5⟩
  have HK5 := Lib.hid (HK2'.out.tch ht5 (by simp; omega))
  have T5 := HT2.out.then ht5 (by simp)
  have L5 := T5.size
  have HT5 := Lib.hid T5
  obtain ⟨o6, c6, hc6, hn6, hr6⟩ := hs5.cell
  have L6 := hs5.lt
  have HS5 := Lib.hid hs5
  have HR6 := Lib.hid hr6
  clear hs2 HZ2 HT2 HK2' T5 hs5 ht5 hr6
  go_wp2_with fail
  refine (strEmpty_any _ _ _ _).mono ?_
  rintro e w7 ⟨rfl, rfl⟩
  rw [es]
  go_wp2_with fail
  have hp := Str.start (t := 168) HR6.out hn6 (show b < w5.heap.size by omega)
  have hq := Blk.new (w5.alloc (.cells #[.slice (some ⟨b, o6, none⟩) s.length c6] 168)) 5 #[.int .u8 0]
  simp only [World.size_alloc] at hq
  refine (strU8_ok w5.heap.size b (w5.heap.size + 1) s ms z HSE.out 0 _ (hp.alloc _) (by omega) hq (by omega) (by omega) LM.out).mono ?_
  rintro e w8 ⟨rfl, hp8, hq8, ht8⟩
  rw [HZ.out] at hq8
  have T8 := (HT5.out.then (Tch.alloc w5 _) (by simp)).then (Tch.alloc _ _) (by simp) |>.then ht8 (by simp; omega)
  have hk8 := ((HK5.out.alloc _).alloc _).tch ht8 (by simp; omega)
  have hs8 := ((HS5.out.alloc _).alloc _).tch ht8 (by simp; omega) (by simp; omega)
  have q8 := hq8.cell 0
  have k8 := hk8.cell 0
  have f8 := hk8.frozen 0
  obtain ⟨o8, c8, hc8, hn8, hr8⟩ := hp8.cell
  rw [HK2.out] at hc8
  have L8 := T8.size
  have L9 := hq8.lt
  simp at q8 k8
  have HP8 := Lib.hid hp8
  have HQ8 := Lib.hid hq8
  have HK8 := Lib.hid hk8
  have HS8 := Lib.hid hs8
  have HT8 := Lib.hid T8
  clear hp hq hp8 hq8 hk8 hs8 T8 ht8 hr8 HT5 HK5 HS5 HR6 hc6
  have e1 : decide ((2 : Int) ≤ 2 * (k : Int)) = true := by have := HK0.out; simp; omega
  have e2 : (2 * (k : Int)) % 2 = 0 := by omega
  have e3 : (2 : Int) ≤ 2 * (k : Int) := by have := HK0.out; omega
  have e4 : (1 : Int) ≤ k := by have := HK0.out; omega
  have e5 : (2 * (k : Int)).tmod 2 = 0 := by rw [Int.tmod_eq_emod_of_nonneg (by omega)]; omega
  have e6 : (2 * (k : Int)) < 256 := by have := HKN.out; omega
  have e7 : (0 : Int) ≤ k := by omega
  have e8 : wrap64 (2 * (k : Int)) = 2 * (k : Int) := by unfold wrap64; omega
  go_wp2_with fail
  have TS := Tch.set w8 g 0 (.slice none 0 0)
  have P0 : Blk (w8.setCell ⟨g, 0, none⟩ (.slice none 0 0)) g 126 #[.slice none 0 0] := by simpa using HK8.out.set_ 0 (.slice none 0 0)
  have P1 : Own (w8.setCell ⟨g, 0, none⟩ (.slice none 0 0)) w.heap.size 2 none 0 0 (vs (ms.take (2 * 0))) := Own.nil _ _ _
  have HP0 := Lib.hid P0
  have HP1 := Lib.hid P1
  have HP2 := Lib.hid (HT8.out.trans TS)
  have HP3 : Hid (Str (w8.setCell ⟨g, 0, none⟩ (.slice none 0 0)) 168 w5.heap.size b (ms.drop (2 * 0))) := HP8.out.tch TS (by simp; omega) (by simp; omega)
  have HP4 := Lib.hid (HS8.out.tch TS (by simp; omega) (by simp; omega))
  have HP5 := Lib.hid (HQ8.out.tch TS (by simp; omega))
  clear P0 P1 TS HK8 HT8 HP8 HS8 HQ8 k8 f8 hc8 q8 e1 e2 e5 e8
  go_loopw [10] (fun _ wr => ∃ j : Nat, j ≤ k ∧ ∃ A c', Hi (w5.heap.size + 2) A ∧ Blk wr g 126 #[.slice A j c'] ∧ Own wr w.heap.size 2 A j c' (vs (ms.take (2 * j))) ∧ Tch [g] w wr ∧ Str wr 168 w5.heap.size b (ms.drop (2 * j)) ∧ Str wr 168 (w.heap.size + 1) b s ∧ Blk wr (w5.heap.size + 1) 5 #[.int .u8 (2 * (k : Int))]) (fun _ wr => leftAt w5.heap.size wr)
  case atStart => exact ⟨0, Nat.zero_le _, none, 0, .inl rfl, HP0.out, HP1.out, HP2.out, HP3.out, HP4.out, HP5.out⟩
  case round =>
    clear HP0 HP1 HP2 HP3 HP4 HP5
    obtain ⟨j, hj, A, c', hA, hkr, hor, htr, hpr, hsr, hqr⟩ := hrel
    have LR := htr.size
    have HKR := Lib.hid hkr
    have HOR := Lib.hid hor
    have HTR := Lib.hid htr
    have HPR := Lib.hid hpr
    have HSR := Lib.hid hsr
    have HQR := Lib.hid hqr
    have LP := hpr.lt
    have LQ := hqr.lt
    clear hkr hor htr hsr hqr
    by_cases hlt : j < k
    · obtain ⟨y, hd, hy, htk⟩ := HV.out.step j (by rw [HK2.out]; omega)
      have hll := hpr.left
      have HLL := Lib.hid hll
      obtain ⟨d, hdd⟩ : ∃ d, ms.drop (2 * j) = d := ⟨_, rfl⟩
      obtain ⟨r, hrr⟩ : ∃ r, ms.drop (2 * (j + 1)) = r := ⟨_, rfl⟩
      rw [hdd, hrr] at hd
      rw [hdd] at hpr
      rw [hdd] at HPR
      have hdl : (d.length : Int) ≤ 3000000000 := by
        have h1 := congrArg List.length hdd
        have h2 := HK2.out
        have h3 := HKN.out
        rw [List.length_drop] at h1
        omega
      have hed : decide (d.length = 0) = false := by rw [hd]; rfl
      obtain ⟨o9, c9, hc9, hn9, hr9⟩ := hpr.cell
      have HD := Lib.hid hd
      have HDL := Lib.hid hdl
      have HTK := Lib.hid htk
      have HRR := Lib.hid hrr
      have HDD := Lib.hid hdd
      have hrl : ((254 : UInt8).toNat = 254) := rfl
      clear hd hdl htk hrr hdd hpr hr9 hrl hll
      go_wp2_with fail
      refine (strEmpty_any _ _ _ _).mono ?_
      rintro e w9 ⟨rfl, rfl⟩
      rw [hed]
      go_wp2_with fail
      have hq1 := (Blk.new wr 5 #[.int .u8 0]).alloc (.cells #[.int .u8 0] 5)
      have hq2 := Blk.new (wr.alloc (.cells #[.int .u8 0] 5)) 5 #[.int .u8 0]
      simp only [World.size_alloc] at hq2
      have L10 : w5.heap.size < wr.heap.size := by omega
      have L11 : b < wr.heap.size := by omega
      have L12 : w.heap.size + 1 < wr.heap.size := by omega
      refine (strU8_ok w5.heap.size b wr.heap.size d (y :: r) 254 HD.out 0 _ ((HPR.out.alloc _).alloc _) (by omega) hq1 (by omega) (by omega) HDL.out).mono ?_
      rintro e w9 ⟨rfl, hp9, hq9, ht9⟩
      have hq2' := hq2.tch ht9 (by simp; omega)
      have HYL : Hid (((y :: r).length : Int) ≤ 3000000000) := Lib.hid (by have h1 := HDL.out; have h2 := congrArg List.length HD.out; simp at h2; simp; omega)
      have T9 : Tch [w5.heap.size] wr w9 := ((((Tch.alloc wr (.cells #[.int .u8 0] 5)).trans (Tch.alloc _ (.cells #[.int .u8 0] 5))).more (M := [w5.heap.size]) (by simp)).then ht9 (by simp))
      have hu : ((254 : UInt8).toNat) = 254 := rfl
      rw [hu] at hq9
      have LA := T9.size
      clear hq1 hq2 ht9 hu
      have q9 := hq9.cell 0
      simp at q9
      go_wp2_with fail
      refine (strU8_ok w5.heap.size b (wr.heap.size + 1) (y :: r) r y rfl 0 _ hp9 (by omega) hq2' (by omega) (by omega) HYL.out).mono ?_
      rintro e wA ⟨rfl, hpA, hqA, htA⟩
      have TA : Tch [w5.heap.size] wr wA := T9.then htA (by simp)
      have hqB := hq9.tch htA (by simp; omega)
      have qA := hqA.cell 0
      have qB := hqB.cell 0
      simp at qA qB
      have LB := TA.size
      have LC := hqA.lt
      have HPA := Lib.hid hpA
      have HTA := Lib.hid TA
      have HQA := Lib.hid hqA
      have HQB := Lib.hid hqB
      clear hp9 hq9 hq2' T9 htA q9 hpA TA
      go_wp2_with fail
      refine (validBytes_ok y hy wA).mono ?_
      rintro e wB ⟨rfl, rfl⟩
      clear hqA hqB
      have hkA := HKR.out.tch HTA.out (by simp; omega)
      have kA := hkA.cell 0
      have fA := hkA.frozen 0
      simp at kA
      have HKA := Lib.hid hkA
      clear hkA
      go_wp2_with fail
      have HOA : Hid (∀ w', Below wA.heap.size wA w' → Own w' w.heap.size 2 A j c' (vs (ms.take (2 * j)))) := fun w' h =>
        (HOR.out.tch HTA.out (hA.away (by simp))).keep h
      have jk : (j : Int) + 1 ≤ 127 := by have := HKN.out; omega
      have jk' : j + 1 ≤ 127 := by omega
      have LD : w.heap.size ≤ wA.heap.size := by omega
      have LE : g < wA.heap.size := by omega
      go_region_law (refine step_append rfl (.tmp 72) (.tmp 76) 124 124 rfl w.heap.size 181 _ 2 2 Tryd.underlying124 (.inl Tryd.underlying124) versInfo rfl (by omega) (xs := vs (ms.take (2 * j))) (ys := vs [254, y]) rfl rfl (HOA.out _ (by (repeat (first | assumption | exact Below.refl _ _ | refine Below.drew ?_ | refine Below.setCell ?_ (by first | omega | (simp; done) | (simp; omega)) _ | refine Below.alloc ?_ (by first | omega | (simp; done) | (simp; omega)) _)))) ⟨by simp [vs], vs_one _, .inl ⟨_, _, rfl, rd_pair _ _ _ _⟩⟩ (by omega) (by simp only [maxLen]; omega) (by simp; omega) ?_; intro A2 c2 w9 hO9 hg9 hor9; have t9 : Tch (A.map (·.block)).toList wA w9 := ((((Tch.drew wA).trans (Tch.alloc _ _)).more (by simp))).trans (Tch.grown hg9); have hk9 := HKA.out.tch t9 (hA.notin (by omega)); have q9 := hk9.cell 0; have f9 := hk9.frozen 0; simp at q9)
      all_goals
        have TS := Tch.set w9 g 0 (.slice A2 (j + 1) c2)
        have hA2 : Hi (w5.heap.size + 2) A2 := hA.new hor9 (by simp; omega)
        have HK9 := Lib.hid hk9
        have HO9 := Lib.hid hO9
        have HT9 := Lib.hid ((HTR.out.then HTA.out (by simp; omega)).then t9 (fun k hk => .inr (by have := hA.inn k hk; omega)))
        have HS9 := Lib.hid ((HSR.out.tch HTA.out (by simp; omega) (by simp; omega)).tch t9 (hA.notin (by omega)) (hA.notin (by omega)))
        have HQ9 := Lib.hid ((HQR.out.tch HTA.out (by simp)).tch t9 (hA.notin (by omega)))
        have HP9 := Lib.hid (HPA.out.tch t9 (hA.notin (by omega)) (hA.notin (by omega)))
        clear hO9 hg9 hor9 t9 hk9 q9 f9
        go_roundw
        case rel =>
          have hO := HO9.out.tch TS (hA2.away (by simp; omega))
          rw [← vs_append, ← HTK.out] at hO
          repeat apply Exists.intro
          refine ⟨⟨j + 1, by omega, A2, c2, hA2, by simpa using HK9.out.set_ 0 (.slice A2 (j + 1) c2), hO, HT9.out.trans TS, ?_, HS9.out.tch TS (by simp; omega) (by simp; omega), HQ9.out.tch TS (by simp; omega)⟩, rfl⟩
          rw [HRR.out]
          exact HP9.out.tch TS (by simp; omega) (by simp; omega)
        case measure =>
          rw [(HP9.out.tch TS (by simp; omega) (by simp; omega)).left, HLL.out]
          have h1 := congrArg List.length HRR.out
          have h2 := HK2.out
          rw [List.length_drop] at h1
          rw [List.length_drop]
          omega
    · obtain rfl : j = k := by omega
      have hd : ms.drop (2 * j) = [] := List.drop_eq_nil_of_le (by have := HK2.out; omega)
      have ht : ms.take (2 * j) = ms := List.take_of_length_le (by have := HK2.out; omega)
      rw [hd] at hpr
      obtain ⟨o9, c9, hc9, hn9, hr9⟩ := hpr.cell
      have q9 := HQR.out.cell 0
      simp at q9 hc9
      have HHD := Lib.hid ht
      have HDD := Lib.hid hd
      clear hd ht hpr hr9
      go_wp2_with fail
      refine (strEmpty_any _ _ _ _).mono ?_
      rintro e w9 ⟨rfl, rfl⟩
      have e8 : wrap64 (2 * (j : Int)) = 2 * (j : Int) := by unfold wrap64; omega
      have e9 : wrap64 (1 + 2 * (j : Int)) = 1 + 2 * (j : Int) := by unfold wrap64; omega
      go_wp2_with fail
      have e10 : (1 + 2 * (j : Int)) = ((s.length : Nat) : Int) := by have := HSL.out; omega
      rw [e10]
      clear e10 e9 e8
      refine (strSkip_ok (w.heap.size + 1) b s s.length wr HSR.out (by omega) (by omega) LM.out).mono ?_
      rintro e wA ⟨rfl, hsA, htA⟩
      rw [List.drop_length] at hsA
      obtain ⟨oA, cA, hcA, hnA, hrA⟩ := hsA.cell
      simp at hcA
      have HKA := Lib.hid (HKR.out.tch htA (by simp; omega))
      have HOA := Lib.hid (HOR.out.tch htA (hA.away (by simp; omega)))
      have HTA := Lib.hid (HTR.out.then htA (by simp))
      clear hsA htA hrA
      go_wp2_with fail
      refine (strEmpty_any _ _ _ _).mono ?_
      rintro e w9 ⟨rfl, rfl⟩
      go_wp2_with fail
      go_ret
      have h := HOA.out
      rw [HHD.out] at h
      exact ⟨rfl, _, _, HKA.out, h.rd, HTA.out.toGrown⟩
end Go.Proofs.YtkjpkenhpmjikaaDoor
