/- Walks: a cookie's extension, read to its end. -/
import Derived.Test.YtkjpkenhpmjikaaDoorCookie
namespace Go.Proofs.YtkjpkenhpmjikaaDoor
open Go.RowKit Go.Cv
set_option maxRecDepth 100000
set_option linter.unusedVariables false
set_option maxHeartbeats 1000000 in
theorem cookie_ok (g b c : Nat) (l m : List UInt8) (x y u v : UInt8) (x0 : Value) (hl : l = 0 :: 44 :: x :: y :: u :: v :: m) (hxy : x.toNat * 256 + y.toNat = m.length + 2) (huv : u.toNat * 256 + v.toNat = m.length) (hm0 : 0 < m.length) (hm1 : (m.length : Int) < 60000) (w : World)
    (hk : Blk w g 83 #[x0]) (hr : Rd w (some ⟨b, 0, none⟩) (vs l)) (hlc : l.length ≤ c) (hbs : b < w.heap.size) (hgb : g ≠ b) :
    Calls Tryd.prog 45 #[.pointer (some ⟨g, 0, none⟩), .slice (some ⟨b, 0, none⟩) l.length c] w fun e w' =>
      e = .returned .nilIface ∧ ∃ A' c', Blk w' g 83 #[.slice A' m.length c'] ∧ Rd w' A' (vs m) ∧ w.grownBy w' (some g) := by
  have hgs := hk.lt
  have hS := Lib.hid ((Str.start (t := 168) hr hlc hbs).alloc (.cells #[.int .u16 0] 24))
  have hQ := Lib.hid (Blk.new (w.alloc (.cells #[.slice (some ⟨b, 0, none⟩) l.length c] 168)) 24 #[.int .u16 0])
  have HL := Lib.hid hl
  have hll : l.length = m.length + 6 := by rw [hl]; simp
  have HM : Hid ((l.length : Int) ≤ 3000000000) := Lib.hid (by omega)
  have HXY := Lib.hid hxy
  have HUV := Lib.hid huv
  have HM1 : Hid (m.length < 60000) := Lib.hid (by omega)
  have em : decide (m.length = 0) = false := by simp; intro h; rw [h] at hm0; simp at hm0
  have eg : ¬ ((65533 : Int) < m.length) := by omega
  clear hl hr hll hxy huv hm1
  go_enter Tryd.func45, Tryd.ntmps45
  go_wp2_with fail
  have hb2 : Below w.heap.size w ((w.alloc (.cells #[.slice (some ⟨b, 0, none⟩) l.length c] 168)).alloc (.cells #[.int .u16 0] 24)) := by (repeat (first | assumption | exact Below.refl _ _ | refine Below.drew ?_ | refine Below.setCell ?_ (by first | omega | (simp; done) | (simp; omega)) _ | refine Below.alloc ?_ (by first | omega | (simp; done) | (simp; omega)) _))
  have hs2 := hS.out
  have hq2 := hQ.out
  have hk2 := (hk.alloc (.cells #[.slice (some ⟨b, 0, none⟩) l.length c] 168)).alloc (.cells #[.int .u16 0] 24)
  simp only [World.size_alloc] at hq2
  generalize hW : (w.alloc (.cells #[.slice (some ⟨b, 0, none⟩) l.length c] 168)).alloc (.cells #[.int .u16 0] 24) = w2 at *
  have HS2 : Hid (Str w2.drew 168 w.heap.size b l) := hs2.tch (Tch.drew _) (by simp) (by simp)
  have HQ2 : Hid (Blk w2.drew (w.heap.size + 1) 24 #[.int .u16 0]) := hq2
  have HK2 : Hid (Blk w2.drew g 83 #[x0]) := hk2
  have HB2 := Lib.hid hb2
  clear hs2 hS hQ hq2 hk2 hb2 hk
  first
    | (go_region_with (first
        | (go_at_call 87; refine (strU16_ok w.heap.size b (w.heap.size + 1) l (x :: y :: u :: v :: m) 0 44 HL.out 0 _ HS2.out (by omega) HQ2.out (by omega) (by omega) HM.out).mono ?_; rintro e w3 ⟨rfl, hs3, hq3, ht3⟩; have c3 := hq3.cell 0; have hk3 := HK2.out.tch ht3 (by simp; omega); have k3 := hk3.cell 0; simp at c3 k3; replace hs3 := Lib.hid hs3; replace hq3 := Lib.hid hq3; replace ht3 := Lib.hid ht3; replace hk3 := Lib.hid hk3)
        | (go_at_call 88; refine (cookieType _ _).mono ?_; rintro e w4 ⟨rfl, hb4⟩; first | (have c4 := keep_of_below hb4 _ _ c3) | skip)))
    | fail "no"
  all_goals
    have T4 : Tch [g] w w4 := (((Tch.below HB2.out [g]).then (Tch.drew _) (by simp)).then ht3.out (by simp)).then (Tch.below hb4 []) (by simp)
    have hs4 := Lib.hid (hs3.out.tch (Tch.below hb4 []) (by simp) (by simp))
    have hk4 := Lib.hid (hk3.out.keep hb4)
    have L4 := T4.size
    have L5 := hs4.out.lt
    have HT4 := Lib.hid T4
    clear T4 hs3 hk3 hq3 ht3 hb4 HB2 HS2 HQ2 HK2 c3 k3
    go_wp2_with fail
    refine (str16_ok w.heap.size b w4.heap.size (x :: y :: u :: v :: m) (u :: v :: m) (u :: v :: m) [] x y (m.length + 2) rfl HXY.out (by simp) (by simp) (.slice none 0 0) _ (hs4.out.alloc _) (by omega) (Blk.new _ _ _) (by omega) (by omega) (by have := HM1.out; simp; omega)).mono ?_
    rintro e w5 ⟨rfl, hs5, hp5, ht5⟩
    have hk5 := Lib.hid ((hk4.out.alloc _).tch ht5 (by simp; omega))
    have T5 := (HT4.out.then (Tch.alloc w4 _) (by simp)).then ht5 (by simp; omega)
    have L6 := hs5.lt
    have L7 := T5.size
    have HT5 := Lib.hid T5
    have HS5 := Lib.hid hs5
    clear hs4 hk4 HT4 hp5 ht5 T5 hs5
    go_wp2_with fail
    refine (str16_ok w4.heap.size b w5.heap.size (u :: v :: m) m m [] u v m.length rfl HUV.out (by simp) rfl (.slice none 0 0) _ (HS5.out.alloc _) (by omega) (Blk.new _ _ _) (by omega) (by omega) (by have := HM1.out; simp; omega)).mono ?_
    rintro e w6 ⟨rfl, hs6, hp6, ht6⟩
    have hk6 := (hk5.out.alloc _).tch ht6 (by simp; omega)
    have T6 := (HT5.out.then (Tch.alloc w5 _) (by simp)).then ht6 (by simp; omega)
    have L8 := hs6.lt
    have L9 := T6.size
    obtain ⟨o5, c5, hc5, hn5, hr5⟩ := hs6.cell
    obtain ⟨o6, c6, hc6, hn6, hr6⟩ := hp6.cell
    have HR5 := Lib.hid hr5
    have HK6 := Lib.hid hk6
    have HT6 := Lib.hid T6
    clear hk5 HT5 HS5 hs6 hp6 ht6 hr5 hr6 T6
    go_wp2_with fail
    refine (strEmpty_any _ _ _ _).mono ?_
    rintro e w7 ⟨rfl, rfl⟩
    rw [em]
    go_wp2_with fail
    refine (strEmpty_any _ _ _ _).mono ?_
    rintro e w7 ⟨rfl, rfl⟩
    go_wp2_with (at_builtin; refine Held.on ?_)
    refine held_append rfl (.const (.slice none 0 0)) (.tmp 41) 54 168 rfl w6.heap.size 5 _ 1 1 Tryd.underlying54 (.inl Tryd.underlying168) u8info rfl (by omega) (xs := []) (ys := vs m) rfl rfl (Own.nil _ _ _) ⟨by rw [vs_length]; simp, vs_one _, .inl ⟨_, _, rfl, HR5.out⟩⟩ (by have := HM1.out; omega) (by have := HM1.out; simp only [maxLen]; omega) (Nat.le_refl _) ?_
    intro A' c' w8 hown hg8 hor
    have t8 : Tch [] w6 w8 := Tch.grown hg8
    have hk8 := HK6.out.tch t8 (by simp)
    have q8 := hk8.cell 0
    have f8 := hk8.frozen 0
    simp at q8
    have HK8 := Lib.hid hk8
    have HO8 := Lib.hid hown
    have T8 := Lib.hid (HT6.out.then t8 (by simp))
    clear hk8 hown t8 hg8 HK6 HT6
    go_wp2_with fail
    go_ret
    have TS := Tch.set w8 g 0 (.slice A' (0 + m.length) c')
    have hK := HK8.out.set_ 0 (.slice A' (0 + m.length) c')
    have hO := HO8.out.grown TS.toGrown (by rcases hor with ⟨rfl, _⟩ | rfl <;> simp <;> omega)
    have hT := (T8.out.trans TS).toGrown
    simp at hK hT hO
    exact ⟨rfl, A', c', hK, hO.rd, hT⟩
end Go.Proofs.YtkjpkenhpmjikaaDoor
