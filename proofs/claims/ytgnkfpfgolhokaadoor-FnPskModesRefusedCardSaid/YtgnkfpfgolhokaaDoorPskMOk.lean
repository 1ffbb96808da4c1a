/- Walks: modes of pre-shared keys, read to their end. -/
import Derived.Test.YtgnkfpfgolhokaaDoorPskM
namespace Go.Proofs.YtgnkfpfgolhokaaDoor
open Go.RowKit Go.Cv
set_option maxRecDepth 100000
set_option linter.unusedVariables false
theorem modeInfo : (Tryd.prog.info? 120).map (fun i => (i.zero, i.size, i.bytes)) = some (some (.int .u8 0), 1, 1) := by kernel_rfl
set_option maxHeartbeats 2000000 in
theorem pskm_ok (g b c : Nat) (l ms : List UInt8) (x y z : UInt8) (x0 : Value) (hl : l = 0 :: 45 :: x :: y :: z :: ms) (hxy : x.toNat * 256 + y.toNat = ms.length + 1) (hz : ms.length = z.toNat) (hm0 : 0 < ms.length) (w : World)
    (hk : Blk w g 75 #[x0]) (hr : Rd w (some ⟨b, 0, none⟩) (vs l)) (hlc : l.length ≤ c) (hbs : b < w.heap.size) (hgb : g ≠ b) :
    Calls Tryd.prog 38 #[.pointer (some ⟨g, 0, none⟩), .slice (some ⟨b, 0, none⟩) l.length c] w fun e w' =>
      e = .returned .nilIface ∧ ∃ A' c', Blk w' g 75 #[.slice A' ms.length c'] ∧ Rd w' A' (vs ms) ∧ w.grownBy w' (some g) := by
  have hz1 := z.toNat_lt
  have em : decide (ms.length = 0) = false := by simp; intro h; rw [h] at hm0; simp at hm0
  have hgs := hk.lt
  have hS := Lib.hid ((Str.start (t := 122) hr hlc hbs).alloc (.cells #[.int .u16 0] 24))
  have hQ := Lib.hid (Blk.new (w.alloc (.cells #[.slice (some ⟨b, 0, none⟩) l.length c] 122)) 24 #[.int .u16 0])
  have HL := Lib.hid hl
  have hll : l.length = ms.length + 5 := by rw [hl]; simp
  have HM : Hid ((l.length : Int) ≤ 3000000000) := Lib.hid (by omega)
  have HXY := Lib.hid hxy
  have HZ := Lib.hid hz
  have HML : Hid (ms.length < 256) := Lib.hid (by omega)
  clear hxy hz hz1
  clear hl hr hll
  go_enter Tryd.func38, Tryd.ntmps38
  go_wp2_with fail
  have hb2 : Below w.heap.size w ((w.alloc (.cells #[.slice (some ⟨b, 0, none⟩) l.length c] 122)).alloc (.cells #[.int .u16 0] 24)) := by (repeat (first | assumption | exact Below.refl _ _ | refine Below.drew ?_ | refine Below.setCell ?_ (by first | omega | (simp; done) | (simp; omega)) _ | refine Below.alloc ?_ (by first | omega | (simp; done) | (simp; omega)) _))
  have hs2 := hS.out
  have hq2 := hQ.out
  have hk2 := (hk.alloc (.cells #[.slice (some ⟨b, 0, none⟩) l.length c] 122)).alloc (.cells #[.int .u16 0] 24)
  simp only [World.size_alloc] at hq2
  generalize hW : (w.alloc (.cells #[.slice (some ⟨b, 0, none⟩) l.length c] 122)).alloc (.cells #[.int .u16 0] 24) = w2 at *
  have HS2 : Hid (Str w2.drew 122 w.heap.size b l) := hs2.tch (Tch.drew _) (by simp) (by simp)
  have HQ2 : Hid (Blk w2.drew (w.heap.size + 1) 24 #[.int .u16 0]) := hq2
  have HK2 : Hid (Blk w2.drew g 75 #[x0]) := hk2
  have HB2 := Lib.hid hb2
  clear hs2 hS hQ hq2 hk2 hb2 hk
  first
    | (go_region_with (first
        | (go_at_call 71; refine (strU16_ok w.heap.size b (w.heap.size + 1) l (x :: y :: z :: ms) 0 45 HL.out 0 _ HS2.out (by omega) HQ2.out (by omega) (by omega) HM.out).mono ?_; rintro e w3 ⟨rfl, hs3, hq3, ht3⟩; have c3 := hq3.cell 0; have hk3 := HK2.out.tch ht3 (by simp; omega); have k3 := hk3.cell 0; simp at c3 k3; replace hs3 := Lib.hid hs3; replace hq3 := Lib.hid hq3; replace ht3 := Lib.hid ht3; replace hk3 := Lib.hid hk3)
        | (go_at_call 67; refine (pskmType _ _).mono ?_; rintro e w4 ⟨rfl, hb4⟩; first | (have c4 := keep_of_below hb4 _ _ c3) | skip)))
    | fail "no"
  all_goals
    have T4 : Tch [g] w w4 := (((Tch.below HB2.out [g]).then (Tch.drew _) (by simp)).then ht3.out (by simp)).then (Tch.below hb4 []) (by simp)
    have hs4 := Lib.hid (hs3.out.tch (Tch.below hb4 []) (by simp) (by simp))
    have hk4 := Lib.hid (hk3.out.keep hb4)
    have L4 := T4.size
    have L5 := hs4.out.lt
    have HT4 := Lib.hid T4
    clear T4 hs3 hk3 hq3 ht3 hb4 HB2 HS2 HQ2 HK2 c3 k3
    go_wp2_with fail
    refine (str16_ok w.heap.size b w4.heap.size (x :: y :: z :: ms) (z :: ms) (z :: ms) [] x y (ms.length + 1) rfl HXY.out (by simp) (by simp) (.slice none 0 0) _ (hs4.out.alloc _) (by omega) (Blk.new _ _ _) (by omega) (by omega) (by have := HML.out; simp; omega)).mono ?_
    rintro e w5 ⟨rfl, hs5, hp5, ht5⟩
    have hk5 := (hk4.out.alloc _).tch ht5 (by simp; omega)
    have T5 := (HT4.out.then (Tch.alloc w4 _) (by simp)).then ht5 (by simp; omega)
    have L6 := hs5.lt
    have L7 := T5.size
    have HT5 := Lib.hid T5
    have HS5 := Lib.hid hs5
    have HK5 := Lib.hid hk5
    clear hs4 hk4 HT4 hp5 ht5 T5 hs5 hk5
    go_wp2_with fail
    refine (str8_ok w4.heap.size b w5.heap.size (z :: ms) ms ms [] z rfl (by simp) HZ.out (.slice none 0 0) _ (HS5.out.alloc _) (by omega) (Blk.new _ _ _) (by omega) (by omega) (by have := HML.out; simp; omega)).mono ?_
    rintro e w6 ⟨rfl, hs6, hp6, ht6⟩
    have hk6 := (HK5.out.alloc _).tch ht6 (by simp; omega)
    have T6 := (HT5.out.then (Tch.alloc w5 _) (by simp)).then ht6 (by simp; omega)
    have L8 := hs6.lt
    have L9 := T6.size
    obtain ⟨o6, c6, hc6, hn6, hr6⟩ := hs6.cell
    obtain ⟨o7, c7, hc7, hn7, hr7⟩ := hp6.cell
    have HK6 := Lib.hid hk6
    have HT6 := Lib.hid T6
    have HR6 := Lib.hid hr6
    have HS6 := Lib.hid hs6
    clear HS5 HK5 HT5 hs6 hp6 ht6 hk6 T6 hr6 hr7
    go_wp2_with fail
    refine (strEmpty_any _ _ _ _).mono ?_
    rintro e w7 ⟨rfl, rfl⟩
    rw [em]
    go_wp2_with fail
    refine (strEmpty_any _ _ _ _).mono ?_
    rintro e w7 ⟨rfl, rfl⟩
    go_wp2_with fail
    refine upon_make 73 120 (.int .u8 0) 1 Tryd.underlying73 modeInfo rfl 0 0 rfl rfl (Nat.le_refl _) (by omega) (by simp only [maxLen]; omega) ?_
    intro w8 hown hb8 hsz8
    have hk8 := HK6.out.keep hb8
    have k8 := hk8.cell 0
    have f8 := hk8.frozen 0
    simp at k8
    have c8 := keep_of_below hb8 _ _ hc6
    have HK8 := Lib.hid hk8
    have HO8 := Lib.hid hown
    have HT8 := Lib.hid (HT6.out.then (Tch.below hb8 []) (by simp))
    have HS8 := Lib.hid (HS6.out.tch (Tch.below hb8 []) (by simp) (by simp))
    have HR8 := Lib.hid (HR6.out.keep hb8)
    have L10 := hb8.size
    clear hown hb8 hk8 HK6 HT6 HS6 HR6 hc6
    go_wp2_with fail
    have TS := Tch.set w8 g 0 (.slice (some ⟨w6.heap.size, 0, none⟩) 0 0)
    have P0 : Blk (w8.setCell ⟨g, 0, none⟩ (.slice (some ⟨w6.heap.size, 0, none⟩) 0 0)) g 75 #[.slice (some ⟨w6.heap.size, 0, none⟩) 0 0] := by simpa using HK8.out.set_ 0 (.slice (some ⟨w6.heap.size, 0, none⟩) 0 0)
    have P1 : Own (w8.setCell ⟨g, 0, none⟩ (.slice (some ⟨w6.heap.size, 0, none⟩) 0 0)) w.heap.size 1 (some ⟨w6.heap.size, 0, none⟩) 0 0 (vs (ms.take 0)) := Own.empty _ _ _ _
    have P2 := HT8.out.trans TS
    have P3 := HR8.out.tch TS (by simp; omega)
    have HP0 := Lib.hid P0
    have HP1 := Lib.hid P1
    have HP2 := Lib.hid P2
    have HP3 := Lib.hid P3
    clear P0 P1 P2 P3 TS HK8 HO8 HT8 HS8 HR8 k8 f8 c8
    go_loopw [43] (fun i wr => ∃ j : Nat, j ≤ ms.length ∧ i = .int .i64 j ∧ ∃ a c', w.heap.size ≤ a ∧ a ≠ b ∧ Blk wr g 75 #[.slice (some ⟨a, 0, none⟩) j c'] ∧ Own wr w.heap.size 1 (some ⟨a, 0, none⟩) j c' (vs (ms.take j)) ∧ Tch [g] w wr ∧ Rd wr (some ⟨b, o6, none⟩) (vs ms)) (fun i _ => ms.length - (intOf i).toNat)
    case atStart => exact ⟨0, Nat.zero_le _, rfl, _, _, by omega, by omega, HP0.out, HP1.out, HP2.out, HP3.out⟩
    case round =>
      clear HP0 HP1 HP2 HP3
      obtain ⟨j, hj, rfl, a, c', ha, hab, hkr, hor, htr, hrr⟩ := hrel
      have HKR := Lib.hid hkr
      have HOR := Lib.hid hor
      have HTR := Lib.hid htr
      have HRR := Lib.hid hrr
      have LR := htr.size
      clear hkr hor htr hrr
      by_cases hlt : j < ms.length
      · have hc := HRR.out.byte j hlt
        have hj1 : (j : Int) < 256 := by have := HML.out; omega
        have q0 := HKR.out.cell 0
        simp at q0
        obtain ⟨m, hm⟩ : ∃ m, ms.getD j 0 = m := ⟨_, rfl⟩
        rw [hm] at hc
        have HMM := Lib.hid hm
        clear hm
        go_wp2_with (at_builtin; refine Held.on ?_)
        have hrow : Rd (wr.alloc (.cells #[.int .u8 m.toNat] 120)) (some ⟨wr.heap.size, 0, none⟩) (vs [m]) := by
          refine .inr ⟨_, _, rfl, fun k v hk => ?_⟩
          cases k with
          | zero => simp [vs] at hk; subst hk; simp
          | succ k => simp [vs] at hk
        refine held_append rfl (.tmp 51) (.tmp 53) 73 73 rfl w.heap.size 120 _ 1 1 Tryd.underlying73 (.inl Tryd.underlying73) modeInfo rfl (by omega) (xs := vs (ms.take j)) (ys := vs [m]) rfl rfl (HOR.out.keep (below_alloc _ _)) ⟨by simp [vs], vs_one _, .inl ⟨_, _, rfl, hrow⟩⟩ (by have := HML.out; omega) (by have := HML.out; simp only [maxLen]; omega) (by simp; omega) ?_
        intro A2 c2 w9 hO9 hg9 hor9
        obtain ⟨a2, rfl, ha2⟩ : ∃ a2, A2 = some ⟨a2, 0, none⟩ ∧ w.heap.size ≤ a2 := by
          rcases hor9 with ⟨rfl, _⟩ | rfl
          · exact ⟨a, rfl, ha⟩
          · exact ⟨_, rfl, by simp; omega⟩
        have t9 : Tch [a] wr w9 := ((Tch.alloc wr _).more (M := [a]) (by simp)).trans (Tch.grown hg9)
        have hk9 := HKR.out.tch t9 (by simp; omega)
        have q9 := hk9.cell 0
        have f9 := hk9.frozen 0
        simp at q9
        have TS := Tch.set w9 g 0 (.slice (some ⟨a2, 0, none⟩) (j + 1) c2)
        have HK9 := Lib.hid hk9
        have HO9 := Lib.hid hO9
        have HT9 := Lib.hid (HTR.out.then t9 (by simp; omega))
        have HR9 := Lib.hid (HRR.out.tch t9 (by simp; omega))
        clear hO9 hg9 hor9 t9 hk9 hrow
        go_wp2_with fail
        go_roundw
        case rel =>
          refine ⟨j + 1, by omega, by go_num, a2, c2, ha2, by omega, by simpa using HK9.out.set_ 0 (.slice (some ⟨a2, 0, none⟩) (j + 1) c2), ?_, HT9.out.trans TS, HR9.out.tch TS (by simp; omega)⟩
          have h := HO9.out.grown TS.toGrown (.inl (by simp; omega))
          have e : vs (ms.take j) ++ vs [m] = vs (ms.take (j + 1)) := by
            rw [← vs_append, List.take_succ_eq_append_getElem hlt, ← HMM.out, List.getD_eq_getElem?_getD, List.getElem?_eq_getElem hlt]; rfl
          rw [e] at h
          exact h
        case measure => simp [intOf]; omega
      · obtain rfl : j = ms.length := by omega
        have e : ms.take ms.length = ms := List.take_length
        go_wp2_with fail
        go_ret
        have h := HOR.out
        rw [e] at h
        exact ⟨rfl, _, _, HKR.out, h.rd, HTR.out.toGrown⟩
end Go.Proofs.YtgnkfpfgolhokaaDoor
