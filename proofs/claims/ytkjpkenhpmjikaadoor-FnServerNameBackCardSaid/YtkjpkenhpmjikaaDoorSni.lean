/- Walks: a server name's extension, read. -/
import Derived.Test.YtkjpkenhpmjikaaDoorExt
namespace Go.Proofs.YtkjpkenhpmjikaaDoor
open Go.RowKit Go.Cv
set_option maxRecDepth 100000
set_option linter.unusedVariables false
theorem sniType (v : Value) (w : World) :
    Calls Tryd.prog 97 #[.agg #[v]] w fun e w' => e = .returned (.int .u16 0) ∧ Below w.heap.size w w' := by
  go_enter Tryd.func97, Tryd.ntmps97
  go_wp2_with fail
  go_ret
  exact ⟨rfl, below_alloc _ _⟩
theorem suffix_no (m : List UInt8) (c : UInt8) (hm0 : 0 < m.length) (hc : m.drop (m.length - 1) = [c]) (h46 : c ≠ 46) (hml : (m.length : Int) < 60000) (w : World) :
    Calls Tryd.prog 116 #[.string (S m), .string (.mk #[46])] w fun e w' => e = .returned (.bool false) ∧ w = w' := by
  have h3 : (S m).size = m.length := S_size m
  have h4 : (ByteArray.mk #[46]).size = 1 := rfl
  have i1 : (1 : Int) ≤ m.length := by omega
  have i0 : 1 ≤ m.length := hm0
  have i2 : (0 : Int) ≤ (m.length : Int) - 1 := by omega
  have i3 : (m.length : Int) - 1 ≤ m.length := by omega
  have i4 : ((m.length : Int) - 1).toNat = m.length - 1 := by omega
  have hx := S_extract m (m.length - 1) m.length
  rw [List.take_length, hc] at hx
  have hw : wrap64 ((m.length : Int) - 1) = (m.length : Int) - 1 := by unfold wrap64; omega
  have HX := Lib.hid hx
  clear hc hml hm0 hx
  go_enter Tryd.func116, Tryd.ntmps116
  go_wp2_with fail
  go_ret
  refine ⟨?_, rfl⟩
  first
    | (show Ending.returned (.bool (((S m).extract ((m.length : Int) - 1).toNat m.length).toList == [46])) = _
       rw [i4, HX.out, S_toList]
       simp [h46])
    | (show Ending.returned (.bool (((S m).extract (m.length - 1) m.length).toList == [46])) = _
       rw [HX.out, S_toList]
       simp [h46])
theorem hasSuffix_no (m : List UInt8) (c : UInt8) (hm0 : 0 < m.length) (hc : m.drop (m.length - 1) = [c]) (h46 : c ≠ 46) (hml : (m.length : Int) < 60000) (w : World) :
    Calls Tryd.prog 99 #[.string (S m), .string (.mk #[46])] w fun e w' => e = .returned (.bool false) ∧ w = w' := by
  have HC := Lib.hid (suffix_no m c hm0 hc h46 hml w)
  clear hm0 hc h46 hml
  go_enter Tryd.func99, Tryd.ntmps99
  go_wp2_with fail
  refine HC.out.mono ?_
  rintro e w1 ⟨rfl, rfl⟩
  go_wp2_with fail
  go_ret
  exact ⟨rfl, rfl⟩
set_option maxHeartbeats 1000000 in
theorem sni_ok (g b c : Nat) (l m : List UInt8) (ch : UInt8) (p q u v x y : UInt8) (hl : l = 0 :: 0 :: p :: q :: u :: v :: 0 :: x :: y :: m) (hpq : p.toNat * 256 + q.toNat = m.length + 5) (huv : u.toNat * 256 + v.toNat = m.length + 3) (hxy : x.toNat * 256 + y.toNat = m.length)
    (hm0 : 0 < m.length) (hml : (m.length : Int) < 60000) (hc : m.drop (m.length - 1) = [ch]) (h46 : ch ≠ 46) (w : World)
    (hk : Blk w g 121 #[.string (S [])]) (hr : Rd w (some ⟨b, 0, none⟩) (vs l)) (hlc : l.length ≤ c) (hbs : b < w.heap.size) (hgb : g ≠ b) :
    Calls Tryd.prog 65 #[.pointer (some ⟨g, 0, none⟩), .slice (some ⟨b, 0, none⟩) l.length c] w fun e w' =>
      e = .returned .nilIface ∧ Blk w' g 121 #[.string (S m)] ∧ w.grownBy w' (some g) := by
  have hgs := hk.lt
  have hll : l.length = m.length + 9 := by rw [hl]; simp
  have hm : (l.length : Int) ≤ 3000000000 := by omega
  have hS := Lib.hid ((Str.start (t := 168) hr hlc hbs).alloc (.cells #[.int .u16 0] 24))
  have hQ := Lib.hid (Blk.new (w.alloc (.cells #[.slice (some ⟨b, 0, none⟩) l.length c] 168)) 24 #[.int .u16 0])
  have HL := Lib.hid hl
  have HP := Lib.hid hpq
  have HU := Lib.hid huv
  have HX := Lib.hid hxy
  have HM := Lib.hid hm
  have HML : Hid (m.length < 60000) := Lib.hid (by omega)
  have HF := Lib.hid (fun w => hasSuffix_no m ch hm0 hc h46 hml w)
  have em : decide (m.length = 0) = false := by simp; intro h; rw [h] at hm0; simp at hm0
  have h30 : (S []).size = 0 := rfl
  clear hl hll hm hpq huv hxy hml hc h46
  go_enter Tryd.func65, Tryd.ntmps65
  go_wp2_with fail
  refine (strU16_ok w.heap.size b (w.heap.size + 1) l (p :: q :: u :: v :: 0 :: x :: y :: m) 0 0 HL.out 0 _ hS.out (by omega) (by simpa using hQ.out) (by omega) (by omega) HM.out).mono ?_
  rintro e w1 ⟨rfl, hs1, hq1, ht1⟩
  have hk1 := ((hk.alloc _).alloc _).tch ht1 (by simp; omega)
  have T1 := ((((Tch.alloc w _).trans (Tch.alloc _ _)).more (M := [g]) (by simp)).then ht1 (by simp))
  have hQ1 := hq1.cell 0
  have hK1 := hk1.cell 0
  simp at hQ1 hK1
  have L1 := T1.size
  have L2 := hq1.lt
  clear hS hQ hk hr ht1
  go_wp2_with fail
  have HB : Hid (∀ w', Below w1.heap.size w1 w' → w'.cell? ⟨w.heap.size + 1, 0, none⟩ = some (.int .u16 0) ∧ w'.cell? ⟨g, 0, none⟩ = some (.string (S []))) := fun w' h => by
    have q1 := (hq1.keep h).cell 0
    have q2 := (hk1.keep h).cell 0
    simp at q1 q2
    exact ⟨q1, q2⟩
  go_region_held3 (fun w' => w'.cell? ⟨w.heap.size + 1, 0, none⟩ = some (.int .u16 0) ∧ w'.cell? ⟨g, 0, none⟩ = some (.string (S []))) ((refine HB.out _ ?_; first | ((repeat (first | assumption | exact Below.refl _ _ | refine Below.drew ?_ | refine Below.setCell ?_ (by first | omega | (simp; done) | (simp; omega)) _ | refine Below.alloc ?_ (by first | omega | (simp; done) | (simp; omega)) _)); done) | exact below_two (below_drew _) (by assumption)))
    (first | (go_at_call 97; refine (sniType _ _).mono ?_; rintro e w2 ⟨rfl, hb2⟩))
  have hb2' : Below w1.heap.size w1 w2 := below_two (below_drew _) hb2
  have L3b := hb2'.size
  have T2 := T1.then (Tch.below hb2' []) (by simp)
  have hs2 := hs1.tch (Tch.below hb2' []) (by simp) (by simp)
  have hk2 := hk1.keep hb2'
  clear HB hq1 hQ1 hK1 hb2 hb2' hs1 hk1
  go_wp2_with fail
  have L3 := T2.size
  refine (str16_ok w.heap.size b w2.heap.size (p :: q :: u :: v :: 0 :: x :: y :: m) (u :: v :: 0 :: x :: y :: m) (u :: v :: 0 :: x :: y :: m) [] p q (m.length + 5) rfl HP.out (by simp) (by simp) (.slice none 0 0) _ (hs2.alloc _) (by omega) (Blk.new _ _ _) (by omega) (by omega) (by have := HML.out; simp; omega)).mono ?_
  rintro e w3 ⟨rfl, hs3, hp3, ht3⟩
  have hk3 := (hk2.alloc _).tch ht3 (by simp; omega)
  have T3 := (T2.then (Tch.alloc w2 _) (by simp)).then ht3 (by simp; omega)
  have L4 := hs3.lt
  have L5 := T3.size
  clear hs2 hk2 T2 hp3 ht3
  go_wp2_with fail
  refine (str16_ok w2.heap.size b w3.heap.size (u :: v :: 0 :: x :: y :: m) (0 :: x :: y :: m) (0 :: x :: y :: m) [] u v (m.length + 3) rfl HU.out (by simp) (by simp) (.slice none 0 0) _ (hs3.alloc _) (by omega) (Blk.new _ _ _) (by omega) (by omega) (by have := HML.out; simp; omega)).mono ?_
  rintro e w4 ⟨rfl, hs4, hp4, ht4⟩
  have hk4 := (hk3.alloc _).tch ht4 (by simp; omega)
  have T4 := (T3.then (Tch.alloc w3 _) (by simp)).then ht4 (by simp; omega)
  have L6 := hs4.lt
  have L7 := T4.size
  obtain ⟨o4, c4, hc4, hn4, hr4⟩ := hs4.cell
  obtain ⟨o5, c5, hc5, hn5, hr5⟩ := hp4.cell
  have HS4 := Lib.hid hs4
  have HK4 := Lib.hid hk4
  have HT4 := Lib.hid T4
  clear hs3 hk3 T3 ht4 hr4 hr5 hs4 hk4 T4 hp4
  go_wp2_with fail
  refine (strEmpty_any _ _ _ _).mono ?_
  rintro e w5 ⟨rfl, rfl⟩
  go_wp2_with fail
  refine (strEmpty_any _ _ _ _).mono ?_
  rintro e w5 ⟨rfl, rfl⟩
  go_wp2_with fail
  refine wp_loop_rounds 2 ?_
  rw [rounds_succ]
  go_wp2_with fail
  refine (strEmpty_any _ _ _ _).mono ?_
  rintro e w5 ⟨rfl, rfl⟩
  go_wp2_with fail
  have hq5 : Blk ((w4.alloc (.cells #[.int .u8 0] 5)).alloc (.cells #[.slice none 0 0] 168)) w4.heap.size 5 #[.int .u8 0] := (Blk.new w4 5 #[.int .u8 0]).alloc _
  refine (strU8_ok w3.heap.size b w4.heap.size (0 :: x :: y :: m) (x :: y :: m) 0 rfl 0 _ ((HS4.out.alloc _).alloc _) (by omega) hq5 (by omega) (by omega) (by have := HML.out; simp; omega)).mono ?_
  rintro e w6 ⟨rfl, hs6, hq6, ht6⟩
  have hz6 : Blk w6 (w4.heap.size + 1) 168 #[.slice none 0 0] := by
    have h := (Blk.new (w4.alloc (.cells #[.int .u8 0] 5)) 168 #[.slice none 0 0]).tch ht6 (by simp; omega)
    simpa using h
  have hk6 := Lib.hid (((HK4.out.alloc _).alloc _).tch ht6 (by simp; omega))
  have T6 := ((HT4.out.then (Tch.alloc w4 _) (by simp)).then (Tch.alloc _ _) (by simp)).then ht6 (by simp; omega)
  have L8 := T6.size
  have L9 := hz6.lt
  have HT6 := Lib.hid T6
  have HZ6 := Lib.hid hz6
  have HS6 := Lib.hid hs6
  have HQ6 := Lib.hid hq6
  clear HS4 HK4 HT4 hq5 hs6 hq6 ht6 hz6 T6
  go_wp2_with fail
  refine (str16_ok w3.heap.size b (w4.heap.size + 1) (x :: y :: m) m m [] x y m.length rfl HX.out (by simp) rfl (.slice none 0 0) _ HS6.out (by omega) HZ6.out (by omega) (by omega) (by have := HML.out; simp; omega)).mono ?_
  rintro e w7 ⟨rfl, hs7, hp7, ht7⟩
  have hk7 := hk6.out.tch ht7 (by simp; omega)
  have hq7 := (HQ6.out.tch ht7 (by simp; omega)).cell 0
  have T7 := HT6.out.then ht7 (by simp; omega)
  obtain ⟨o7, c7, hc7, hn7, hr7⟩ := hs7.cell
  obtain ⟨o8, c8, hc8, hn8, hr8⟩ := hp7.cell
  have k7 := hk7.cell 0
  have f7 := hk7.frozen 0
  simp at hq7 k7
  have HK7 := Lib.hid hk7
  have HT7 := Lib.hid T7
  have HR7 := Lib.hid hr7
  have HP7 := Lib.hid hp7
  clear HZ6 HS6 HQ6 hk6 HT6 hs7 hp7 ht7 hk7 T7 hr7 hr8
  go_wp2_with fail
  refine (strEmpty_any _ _ _ _).mono ?_
  rintro e w8 ⟨rfl, rfl⟩
  rw [em]
  go_wp2_with fail
  refine upon_conv_bs 168 9 5 Tryd.underlying168 Tryd.underlying5 Tryd.underlying9 m _ _ _ rfl HR7.out ?_
  go_wp2_with fail
  refine (HF.out _).mono ?_
  rintro e w9 ⟨rfl, rfl⟩
  have TS := Tch.set w7 g 0 (.string (S m))
  obtain ⟨o9, c9, hc9, hn9, hr9⟩ := (HP7.out.tch TS (by simp; omega) (by simp; omega)).cell
  clear hr9
  go_wp2_with fail
  rw [rounds_succ]
  go_wp2_with fail
  refine (strEmpty_any _ _ _ _).mono ?_
  rintro e w10 ⟨rfl, rfl⟩
  go_wp2_with fail
  go_ret
  exact ⟨rfl, by simpa using HK7.out.set_ 0 (.string (S m)), (HT7.out.trans TS).toGrown⟩
end Go.Proofs.YtkjpkenhpmjikaaDoor
