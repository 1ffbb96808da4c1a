/- Walks: early data's extension, read. -/
import Derived.Test.YtkjpkenhpmjikaaDoorCid
import Derived.Test.YtkjpkenhpmjikaaDoorStr32
import Derived.Deep.RegionWith
namespace Go.Proofs.YtkjpkenhpmjikaaDoor
open Go.RowKit Go.Cv
set_option maxRecDepth 100000
set_option linter.unusedVariables false
theorem earlyType (v : Value) (w : World) :
    Calls Tryd.prog 91 #[.agg #[v]] w fun e w' => e = .returned (.int .u16 42) ∧ Below w.heap.size w w' := by
  go_enter Tryd.func91, Tryd.ntmps91
  go_wp2_with fail
  go_ret
  exact ⟨rfl, below_alloc _ _⟩
set_option maxHeartbeats 1000000 in
theorem early_none (g b c : Nat) (l : List UInt8) (x y : UInt8) (hl : l = 0 :: 42 :: x :: y :: []) (hxy : x.toNat * 256 + y.toNat = 0) (w : World)
    (hk : Blk w g 88 #[.pointer none]) (hr : Rd w (some ⟨b, 0, none⟩) (vs l)) (hlc : l.length ≤ c) (hbs : b < w.heap.size) (hgb : g ≠ b) :
    Calls Tryd.prog 47 #[.pointer (some ⟨g, 0, none⟩), .slice (some ⟨b, 0, none⟩) l.length c] w fun e w' =>
      e = .returned .nilIface ∧ Blk w' g 88 #[.pointer none] ∧ w.grownBy w' (some g) := by
  have hgs := hk.lt
  have hS := Lib.hid ((Str.start (t := 168) hr hlc hbs).alloc (.cells #[.int .u16 0] 24))
  have hQ := Lib.hid (Blk.new (w.alloc (.cells #[.slice (some ⟨b, 0, none⟩) l.length c] 168)) 24 #[.int .u16 0])
  have HL := Lib.hid hl
  have hll : l.length = 4 := by rw [hl]; simp
  have HM : Hid ((l.length : Int) ≤ 3000000000) := Lib.hid (by omega)
  have HXY := Lib.hid hxy
  clear hxy
  clear hl hr hll
  go_enter Tryd.func47, Tryd.ntmps47
  go_wp2_with fail
  have hb2 : Below w.heap.size w ((w.alloc (.cells #[.slice (some ⟨b, 0, none⟩) l.length c] 168)).alloc (.cells #[.int .u16 0] 24)) := by (repeat (first | assumption | exact Below.refl _ _ | refine Below.drew ?_ | refine Below.setCell ?_ (by first | omega | (simp; done) | (simp; omega)) _ | refine Below.alloc ?_ (by first | omega | (simp; done) | (simp; omega)) _))
  have hs2 := hS.out
  have hq2 := hQ.out
  have hk2 := (hk.alloc (.cells #[.slice (some ⟨b, 0, none⟩) l.length c] 168)).alloc (.cells #[.int .u16 0] 24)
  simp only [World.size_alloc] at hq2
  generalize hW : (w.alloc (.cells #[.slice (some ⟨b, 0, none⟩) l.length c] 168)).alloc (.cells #[.int .u16 0] 24) = w2 at *
  have HS2 : Hid (Str w2.drew 168 w.heap.size b l) := hs2.tch (Tch.drew _) (by simp) (by simp)
  have HQ2 : Hid (Blk w2.drew (w.heap.size + 1) 24 #[.int .u16 0]) := hq2
  have HK2 : Hid (Blk w2.drew g 88 #[.pointer none]) := hk2
  have HB2 := Lib.hid hb2
  clear hs2 hS hQ hq2 hk2 hb2 hk
  first
    | (go_region_with (first
        | (go_at_call 87; refine (strU16_ok w.heap.size b (w.heap.size + 1) l (x :: y :: []) 0 42 HL.out 0 _ HS2.out (by omega) HQ2.out (by omega) (by omega) HM.out).mono ?_; rintro e w3 ⟨rfl, hs3, hq3, ht3⟩; have c3 := hq3.cell 0; have hk3 := HK2.out.tch ht3 (by simp; omega); have k3 := hk3.cell 0; simp at c3 k3; replace hs3 := Lib.hid hs3; replace hq3 := Lib.hid hq3; replace ht3 := Lib.hid ht3; replace hk3 := Lib.hid hk3)
        | (go_at_call 91; refine (earlyType _ _).mono ?_; rintro e w4 ⟨rfl, hb4⟩; first | (have c4 := keep_of_below hb4 _ _ c3) | skip)))
    | fail "no"
  all_goals
    have T4 : Tch [g] w w4 := (((Tch.below HB2.out [g]).then (Tch.drew _) (by simp)).then ht3.out (by simp)).then (Tch.below hb4 []) (by simp)
    have hs4 := Lib.hid (hs3.out.tch (Tch.below hb4 []) (by simp) (by simp))
    have hk4 := Lib.hid (hk3.out.keep hb4)
    have L4 := T4.size
    have L5 := hs4.out.lt
    have HT4 := Lib.hid T4
    clear T4 hs3 hk3 hq3 ht3 hb4 HB2 HS2 HQ2 HK2 c3 k3
    go_wp2_with fail
    refine (str16_ok w.heap.size b w4.heap.size (x :: y :: []) ([]) ([]) [] x y 0 rfl HXY.out (by simp) (by simp) (.slice none 0 0) _ (hs4.out.alloc _) (by omega) (Blk.new _ _ _) (by omega) (by omega) (by simp)).mono ?_
    rintro e w5 ⟨rfl, hs5, hp5, ht5⟩
    have hk5 := (hk4.out.alloc _).tch ht5 (by simp; omega)
    have T5 := (HT4.out.then (Tch.alloc w4 _) (by simp)).then ht5 (by simp; omega)
    have L6 := hs5.lt
    have L7 := T5.size
    have HT5 := Lib.hid T5
    have HS5 := Lib.hid hs5
    have HK5 := Lib.hid hk5
    obtain ⟨o5, c5, hc5, hn5, hr5⟩ := hs5.cell
    clear hs4 hk4 HT4 hp5 ht5 T5 hs5 hk5 hr5
    go_wp2_with fail
    refine (strEmpty_any _ _ _ _).mono ?_
    rintro e w6 ⟨rfl, rfl⟩
    go_wp2_with fail
    go_ret
    exact ⟨rfl, HK5.out, HT5.out.toGrown⟩
set_option maxHeartbeats 1000000 in
theorem early_some (g b c : Nat) (l : List UInt8) (x y p q u v : UInt8) (N : Int) (hl : l = 0 :: 42 :: x :: y :: p :: q :: u :: v :: []) (hxy : x.toNat * 256 + y.toNat = 4) (hN : N = ((p.toNat * 16777216 + q.toNat * 65536 + u.toNat * 256 + v.toNat : Nat) : Int)) (w : World)
    (hk : Blk w g 88 #[.pointer none]) (hr : Rd w (some ⟨b, 0, none⟩) (vs l)) (hlc : l.length ≤ c) (hbs : b < w.heap.size) (hgb : g ≠ b) :
    Calls Tryd.prog 47 #[.pointer (some ⟨g, 0, none⟩), .slice (some ⟨b, 0, none⟩) l.length c] w fun e w' =>
      e = .returned .nilIface ∧ ∃ a, Blk w' g 88 #[.pointer (some ⟨a, 0, none⟩)] ∧ w'.cell? ⟨a, 0, none⟩ = some (.int .u32 N) ∧ w.grownBy w' (some g) := by
  have hgs := hk.lt
  have hS := Lib.hid ((Str.start (t := 168) hr hlc hbs).alloc (.cells #[.int .u16 0] 24))
  have hQ := Lib.hid (Blk.new (w.alloc (.cells #[.slice (some ⟨b, 0, none⟩) l.length c] 168)) 24 #[.int .u16 0])
  have HL := Lib.hid hl
  have hll : l.length = 8 := by rw [hl]; simp
  have HM : Hid ((l.length : Int) ≤ 3000000000) := Lib.hid (by omega)
  have HXY := Lib.hid hxy
  have HN := Lib.hid hN
  clear hxy hN
  clear hl hr hll
  go_enter Tryd.func47, Tryd.ntmps47
  go_wp2_with fail
  have hb2 : Below w.heap.size w ((w.alloc (.cells #[.slice (some ⟨b, 0, none⟩) l.length c] 168)).alloc (.cells #[.int .u16 0] 24)) := by (repeat (first | assumption | exact Below.refl _ _ | refine Below.drew ?_ | refine Below.setCell ?_ (by first | omega | (simp; done) | (simp; omega)) _ | refine Below.alloc ?_ (by first | omega | (simp; done) | (simp; omega)) _))
  have hs2 := hS.out
  have hq2 := hQ.out
  have hk2 := (hk.alloc (.cells #[.slice (some ⟨b, 0, none⟩) l.length c] 168)).alloc (.cells #[.int .u16 0] 24)
  simp only [World.size_alloc] at hq2
  generalize hW : (w.alloc (.cells #[.slice (some ⟨b, 0, none⟩) l.length c] 168)).alloc (.cells #[.int .u16 0] 24) = w2 at *
  have HS2 : Hid (Str w2.drew 168 w.heap.size b l) := hs2.tch (Tch.drew _) (by simp) (by simp)
  have HQ2 : Hid (Blk w2.drew (w.heap.size + 1) 24 #[.int .u16 0]) := hq2
  have HK2 : Hid (Blk w2.drew g 88 #[.pointer none]) := hk2
  have HB2 := Lib.hid hb2
  clear hs2 hS hQ hq2 hk2 hb2 hk
  first
    | (go_region_with (first
        | (go_at_call 87; refine (strU16_ok w.heap.size b (w.heap.size + 1) l (x :: y :: p :: q :: u :: v :: []) 0 42 HL.out 0 _ HS2.out (by omega) HQ2.out (by omega) (by omega) HM.out).mono ?_; rintro e w3 ⟨rfl, hs3, hq3, ht3⟩; have c3 := hq3.cell 0; have hk3 := HK2.out.tch ht3 (by simp; omega); have k3 := hk3.cell 0; simp at c3 k3; replace hs3 := Lib.hid hs3; replace hq3 := Lib.hid hq3; replace ht3 := Lib.hid ht3; replace hk3 := Lib.hid hk3)
        | (go_at_call 91; refine (earlyType _ _).mono ?_; rintro e w4 ⟨rfl, hb4⟩; first | (have c4 := keep_of_below hb4 _ _ c3) | skip)))
    | fail "no"
  all_goals
    have T4 : Tch [g] w w4 := (((Tch.below HB2.out [g]).then (Tch.drew _) (by simp)).then ht3.out (by simp)).then (Tch.below hb4 []) (by simp)
    have hs4 := Lib.hid (hs3.out.tch (Tch.below hb4 []) (by simp) (by simp))
    have hk4 := Lib.hid (hk3.out.keep hb4)
    have L4 := T4.size
    have L5 := hs4.out.lt
    have HT4 := Lib.hid T4
    clear T4 hs3 hk3 hq3 ht3 hb4 HB2 HS2 HQ2 HK2 c3 k3
    go_wp2_with fail
    refine (str16_ok w.heap.size b w4.heap.size (x :: y :: p :: q :: u :: v :: []) (p :: q :: u :: v :: []) (p :: q :: u :: v :: []) [] x y 4 rfl HXY.out (by simp) (by simp) (.slice none 0 0) _ (hs4.out.alloc _) (by omega) (Blk.new _ _ _) (by omega) (by omega) (by simp)).mono ?_
    rintro e w5 ⟨rfl, hs5, hp5, ht5⟩
    have hk5 := (hk4.out.alloc _).tch ht5 (by simp; omega)
    have T5 := (HT4.out.then (Tch.alloc w4 _) (by simp)).then ht5 (by simp; omega)
    have L6 := hs5.lt
    have L7 := T5.size
    have HT5 := Lib.hid T5
    have HS5 := Lib.hid hs5
    have HK5 := Lib.hid hk5
    obtain ⟨o5, c5, hc5, hn5, hr5⟩ := hs5.cell
    clear hs4 hk4 HT4 hp5 ht5 T5 hs5 hk5 hr5
    go_wp2_with fail
    refine (strEmpty_any _ _ _ _).mono ?_
    rintro e w6 ⟨rfl, rfl⟩
    go_wp2_with fail
    refine (strU32_ok w4.heap.size b w5.heap.size (p :: q :: u :: v :: []) [] p q u v N rfl HN.out 0 _ (HS5.out.alloc _) (by omega) (Blk.new _ _ _) (by omega) (by omega) (by simp)).mono ?_
    rintro e w7 ⟨rfl, hs7, hq7, ht7⟩
    have hk7 := (HK5.out.alloc _).tch ht7 (by simp; omega)
    have T7 := Lib.hid ((HT5.out.then (Tch.alloc w5 _) (by simp)).then ht7 (by simp; omega))
    obtain ⟨o7, c7, hc7, hn7, hr7⟩ := hs7.cell
    have k7 := hk7.cell 0
    have f7 := hk7.frozen 0
    simp at k7
    have HK7 := Lib.hid hk7
    have HQ7 := Lib.hid hq7
    clear HS5 HK5 HT5 hs7 hq7 ht7 hk7 hr7
    go_wp2_with fail
    refine (strEmpty_any _ _ _ _).mono ?_
    rintro e w8 ⟨rfl, rfl⟩
    go_wp2_with fail
    go_ret
    have TS := Tch.set w7 g 0 (.pointer (some ⟨w5.heap.size, 0, none⟩))
    have hK := HK7.out.set_ 0 (.pointer (some ⟨w5.heap.size, 0, none⟩))
    have hQ := (HQ7.out.tch TS (by simp; omega)).cell 0
    simp at hK hQ
    exact ⟨rfl, _, hK, hQ, (T7.out.trans TS).toGrown⟩
end Go.Proofs.YtkjpkenhpmjikaaDoor
