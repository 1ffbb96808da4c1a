/- Walks: a selected group, read. -/
import Derived.Test.YtkjpkenhpmjikaaDoorCurves
import Derived.Test.YtkjpkenhpmjikaaDoorExt
import Derived.Deep.RegionWith
namespace Go.Proofs.YtkjpkenhpmjikaaDoor
open Go.RowKit Go.Cv Go.Maps
set_option maxRecDepth 1000000
set_option linter.unusedVariables false
theorem ksType (x y z : Value) (w : World) :
    Calls Tryd.prog 103 #[.agg #[x, y, z]] w fun e w' => e = .returned (.int .u16 51) ∧ Below w.heap.size w w' := by
  go_enter Tryd.func103, Tryd.ntmps103
  go_wp2_with fail
  go_ret
  exact ⟨rfl, below_alloc _ _⟩
set_option maxHeartbeats 4000000 in
theorem ksg_ok (g b c : Nat) (l : List UInt8) (p q : UInt8) (G : Nat) (hl : l = 0 :: 51 :: 0 :: 2 :: p :: q :: []) (hpq : p.toNat * 256 + q.toNat = G) (hG : G = 23 ∨ G = 24 ∨ G = 29) (w : World)
    (hk : Blk w g 133 #[.slice none 0 0, .pointer none, .pointer none]) (hr : Rd w (some ⟨b, 0, none⟩) (vs l)) (hlc : l.length ≤ c) (hbs : b < w.heap.size) (hgb : g ≠ b) :
    Calls Tryd.prog 69 #[.pointer (some ⟨g, 0, none⟩), .slice (some ⟨b, 0, none⟩) l.length c] w fun e w' =>
      e = .returned .nilIface ∧ ∃ a, Blk w' g 133 #[.slice none 0 0, .pointer none, .pointer (some ⟨a, 0, none⟩)] ∧ Blk w' a 161 #[.int .u16 G] ∧ w.grownBy w' (some g) := by
  have hgs := hk.lt
  obtain ⟨s, hs⟩ : ∃ s, s = [p, q] := ⟨_, rfl⟩
  have hsl : s.length = 2 := by rw [hs]; rfl
  have HM : Hid ((l.length : Int) ≤ 3000000000) := Lib.hid (by rw [hl]; simp)
  have LM : Hid ((s.length : Int) ≤ 3000000000) := Lib.hid (by omega)
  have hl' : l = 0 :: 51 :: (0 :: 2 :: s) := by rw [hl, hs]
  have HXL : Hid ((((0 : UInt8) :: 2 :: s).length : Int) ≤ 3000000000) := Lib.hid (by simp; omega)
  have HXY : Hid ((0 : UInt8).toNat * 256 + (2 : UInt8).toNat = s.length) := Lib.hid (by rw [hsl]; rfl)
  have hS := Lib.hid (((Str.start (t := 168) hr hlc hbs).alloc (.cells #[.slice none 0 0] 168)).alloc (.cells #[.int .u16 0] 24))
  have hQ := Blk.new ((w.alloc (.cells #[.slice (some ⟨b, 0, none⟩) l.length c] 168)).alloc (.cells #[.slice none 0 0] 168)) 24 #[.int .u16 0]
  have hZ := (Blk.new (w.alloc (.cells #[.slice (some ⟨b, 0, none⟩) l.length c] 168)) 168 #[.slice none 0 0]).alloc (.cells #[.int .u16 0] 24)
  simp only [World.size_alloc] at hQ hZ
  have HQ := Lib.hid hQ
  have HZZ := Lib.hid hZ
  have HL := Lib.hid hl'
  have HSE := Lib.hid hs
  have HPQ := Lib.hid hpq
  have HGG := Lib.hid hG
  have HSL := Lib.hid hsl
  have HK := Lib.hid (((hk.alloc (.cells #[.slice (some ⟨b, 0, none⟩) l.length c] 168)).alloc (.cells #[.slice none 0 0] 168)).alloc (.cells #[.int .u16 0] 24))
  have es : decide (s.length = 0) = false := by rw [hsl]; rfl
  have eG : ((G : Int) == 0) = false := by rcases hG with rfl | rfl | rfl <;> rfl
  have eW : wrap64 (G : Int) = G := by rcases hG with rfl | rfl | rfl <;> (unfold wrap64; omega)
  have g0 : (0 : Int) ≤ G := by omega
  have g1 : (G : Int) ≤ 100 := by rcases hG with rfl | rfl | rfl <;> omega
  have e2 : ((s.length : Int) == 2) = true := by rw [hsl]; rfl
  have EN : decide ((0 : Int) = G) = false := by simp; rcases hG with rfl | rfl | rfl <;> omega
  have EG := Lib.hid eG
  have EW := Lib.hid eW
  have E2 := Lib.hid e2
  have EEN := Lib.hid EN
  have G0 := Lib.hid g0
  have G1 := Lib.hid g1
  clear hl hl' hr hk hQ hZ hs hsl hpq hG eG eW e2 EN g0 g1
  go_enter Tryd.func69, Tryd.ntmps69
  go_wp2_with fail
  have hb2 : Below w.heap.size w (((w.alloc (.cells #[.slice (some ⟨b, 0, none⟩) l.length c] 168)).alloc (.cells #[.slice none 0 0] 168)).alloc (.cells #[.int .u16 0] 24)) := by (repeat (first | assumption | exact Below.refl _ _ | refine Below.drew ?_ | refine Below.setCell ?_ (by first | omega | (simp; done) | (simp; omega)) _ | refine Below.alloc ?_ (by first | omega | (simp; done) | (simp; omega)) _))
  have hs2 := hS.out
  have hq2 := HQ.out
  have hz2 := HZZ.out
  have hk2 := HK.out
  generalize hW : ((w.alloc (.cells #[.slice (some ⟨b, 0, none⟩) l.length c] 168)).alloc (.cells #[.slice none 0 0] 168)).alloc (.cells #[.int .u16 0] 24) = w2 at *
  have HS2 : Hid (Str w2.drew 168 w.heap.size b l) := hs2.tch (Tch.drew _) (by simp) (by simp)
  have HQ2 : Hid (Blk w2.drew (w.heap.size + 2) 24 #[.int .u16 0]) := hq2
  have HZ2 : Hid (Blk w2.drew (w.heap.size + 1) 168 #[.slice none 0 0]) := hz2
  have HK2 : Hid (Blk w2.drew g 133 _) := hk2
  have HB2 := Lib.hid hb2
  clear hs2 hS hq2 hk2 hb2 hz2 HQ HZZ HK hW
  first
    | (go_region_with (first
        | (go_at_call 87; refine (strU16_ok w.heap.size b (w.heap.size + 2) l (0 :: 2 :: s) 0 51 HL.out 0 _ HS2.out (by omega) HQ2.out (by omega) (by omega) HM.out).mono ?_; rintro e w3 ⟨rfl, hs3, hq3, ht3⟩; have c3 := hq3.cell 0; have hk3 := HK2.out.tch ht3 (by simp; omega); have k3 := hk3.cell 0; have k3b := hk3.cell 1; have k3c := hk3.cell 2; have hz3 := Lib.hid (HZ2.out.tch ht3 (by simp)); simp at c3 k3 k3b k3c; replace hs3 := Lib.hid hs3; replace hq3 := Lib.hid hq3; replace ht3 := Lib.hid ht3; replace hk3 := Lib.hid hk3)
        | (go_at_call 103; refine (ksType _ _ _ _).mono ?_; rintro e w4 ⟨rfl, hb4⟩; first | (have c4 := keep_of_below hb4 _ _ c3) | skip)))
    | fail "no"
  all_goals
    have T4 : Tch [g] w w4 := (((Tch.below HB2.out [g]).then (Tch.drew _) (by simp)).then ht3.out (by simp)).then (Tch.below hb4 []) (by simp)
    have hs4 := Lib.hid (hs3.out.tch (Tch.below hb4 []) (by simp) (by simp))
    have hk4 := Lib.hid (hk3.out.keep hb4)
    have hz4 := Lib.hid (hz3.out.keep hb4)
    have L4 := T4.size
    have L5 := hs4.out.lt
    have HT4 := Lib.hid T4
    clear T4 hs3 hk3 hq3 ht3 hb4 HB2 HS2 HQ2 HK2 HZ2 hz3 c3 k3 k3b k3c
    simp only [Act.put]
    dsimp only [List.getElem_toArray, List.getElem_cons_succ, List.getElem_cons_zero]
    simp only [List.setIfInBounds_toArray, List.set_cons_zero, List.set_cons_succ]
    go_wp2_with fail
    refine (str16_ok w.heap.size b (w.heap.size + 1) (0 :: 2 :: s) s s [] 0 2 s.length rfl HXY.out (by simp) rfl (.slice none 0 0) w4 hs4.out (by omega) hz4.out (by omega) (by omega) HXL.out).mono ?_
    rintro e w5 ⟨rfl, hs5, _, ht5⟩
    have hk5 := hk4.out.tch ht5 (by simp; omega)
    have T5 := HT4.out.then ht5 (by simp)
    have L5 := T5.size
    obtain ⟨o6, c6, hc6, hn6, hr6⟩ := hs5.cell
    have L6 := hs5.lt
    have k50 := hk5.cell 0
    have k51 := hk5.cell 1
    have k52 := hk5.cell 2
    have f50 := hk5.frozen 0
    have f51 := hk5.frozen 1
    have f52 := hk5.frozen 2
    simp at k50 k51 k52
    have HK5 := Lib.hid hk5
    have HT5 := Lib.hid T5
    have HS5 := Lib.hid hs5
    have HR6 := Lib.hid hr6
    clear hs4 hz4 hk4 HT4 T5 hs5 ht5 hr6 hk5
    go_wp2_with fail
    refine (strEmpty_any _ _ _ _).mono ?_
    rintro e w7 ⟨rfl, rfl⟩
    rw [es]
    go_wp2_with fail
    have TS : Tch [g] w5 (((w5.setCell ⟨g, 0, none⟩ (.slice none 0 0)).setCell ⟨g, 1, none⟩ (.pointer none)).setCell ⟨g, 2, none⟩ (.pointer none)) := ((Tch.set _ _ _ _).trans (Tch.set _ _ _ _)).trans (Tch.set _ _ _ _)
    have hk6 : Blk (((w5.setCell ⟨g, 0, none⟩ (.slice none 0 0)).setCell ⟨g, 1, none⟩ (.pointer none)).setCell ⟨g, 2, none⟩ (.pointer none)) g 133 #[.slice none 0 0, .pointer none, .pointer none] := by
      simpa using ((HK5.out.set_ 0 (.slice none 0 0)).set_ 1 (.pointer none)).set_ 2 (.pointer none)
    have hsz : (((w5.setCell ⟨g, 0, none⟩ (.slice none 0 0)).setCell ⟨g, 1, none⟩ (.pointer none)).setCell ⟨g, 2, none⟩ (.pointer none)).heap.size = w5.heap.size := by simp
    generalize ((w5.setCell ⟨g, 0, none⟩ (.slice none 0 0)).setCell ⟨g, 1, none⟩ (.pointer none)).setCell ⟨g, 2, none⟩ (.pointer none) = w6 at *
    have hr6 := HR6.out.tch TS (by simp; omega)
    have hs6 := HS5.out.tch TS (by simp; omega) (by simp; omega)
    have T6 := HT5.out.trans TS
    have hp := Str.start (t := 168) hr6 hn6 (show b < w6.heap.size by omega)
    have hq := Blk.new (w6.alloc (.cells #[.slice (some ⟨b, o6, none⟩) s.length c6] 168)) 24 #[.int .u16 0]
    simp only [World.size_alloc] at hq
    rw [hsz] at hp hq
    have L7 : w5.heap.size ≤ w6.heap.size := by omega
    refine (strU16_ok w5.heap.size b (w5.heap.size + 1) s [] p q HSE.out 0 _ (hp.alloc _) (by omega) hq (by omega) (by omega) LM.out).mono ?_
    rintro e w8 ⟨rfl, hp8, hq8, ht8⟩
    rw [HPQ.out] at hq8
    have T8 := (T6.then (Tch.alloc w6 _) (by simp)).then (Tch.alloc _ _) (by simp) |>.then ht8 (by simp; omega)
    have hk8 := ((hk6.alloc _).alloc _).tch ht8 (by simp; omega)
    have hs8 := ((hs6.alloc _).alloc _).tch ht8 (by simp; omega) (by simp; omega)
    have q8 := hq8.cell 0
    obtain ⟨o8, c8, hc8, hn8, hr8⟩ := hp8.cell
    obtain ⟨oS, cS, hcS, hnS, hrS⟩ := hs8.cell
    have L8 := T8.size
    have L9 := hq8.lt
    simp at q8 hc8
    have HK8 := Lib.hid hk8
    have HS8 := Lib.hid hs8
    have HT8 := Lib.hid T8
    clear hp hq hp8 hq8 hk8 hs8 T8 ht8 hr8 HT5 HK5 HS5 HR6 hc6 T6 hs6 hr6 hsz TS hk6 k50 k51 k52 f50 f51 f52 hrS
    have eG := EG.out
    have eW := EW.out
    have e2 := HSL.out
    have G0' := G0.out
    have G1' := G1.out
    have e2' : ((s.length : Int) == 2) = true := by rw [e2]; rfl
    rw [e2] at hcS
    clear e2 e2'
    go_wp2_with fail
    refine (strU16_ok (w.heap.size + 1) b w8.heap.size s [] p q HSE.out 0 _ (HS8.out.alloc _) (by omega) (Blk.new _ _ _) (by omega) (by omega) LM.out).mono ?_
    rintro e w9 ⟨rfl, hp9, hq9, ht9⟩
    rw [HPQ.out] at hq9
    have T9 := (HT8.out.then (Tch.alloc w8 _) (by simp)).then ht9 (by simp; omega)
    have hk9 := (HK8.out.alloc _).tch ht9 (by simp; omega)
    have q9 := hq9.cell 0
    simp at q9
    have L10 := T9.size
    have HK9 := Lib.hid hk9
    have HT9 := Lib.hid T9
    clear hp9 hq9 ht9 T9 hk9 HS8 HT8 HK8 hcS q8 hc8
    go_wp2_with fail
    have hcv := Blk.new w9 161 #[.int .u16 G]
    have hbA : Below w9.heap.size w9 (w9.alloc (.cells #[.int .u16 G] 161)) := below_alloc _ _
    have hkA := HK9.out.alloc (.cells #[.int .u16 G] 161)
    generalize hWA : w9.alloc (.cells #[.int .u16 G] 161) = wA at *
    clear hWA
    have HB : Hid (∀ w', Below wA.heap.size wA w' → w'.cell? ⟨w9.heap.size, 0, none⟩ = some (.int .u16 G)) := fun w' h => by simpa using (hcv.keep h).cell 0
    have HCV := Lib.hid hcv
    have HKA := Lib.hid hkA
    have HBA := Lib.hid hbA
    clear hcv hkA hbA
    go_region_held3 (fun w' => w'.cell? ⟨w9.heap.size, 0, none⟩ = some (.int .u16 G)) ((refine HB.out _ ?_; first | ((repeat (first | assumption | exact Below.refl _ _ | refine Below.drew ?_ | refine Below.setCell ?_ (by first | omega | (simp; done) | (simp; omega)) _ | refine Below.alloc ?_ (by first | omega | (simp; done) | (simp; omega)) _)); done) | exact below_two (below_drew _) (by assumption)))
      (first | (go_at_call 84; refine (curves_any _).mono ?_; rintro e wB ⟨mb, rfl, hmap, hbB⟩; have hlk := lookup_run curveKeyed Tryd.underlying163 Tryd.underlying4 (boolZero _) hmap (keyOf_int_mk Tryd.underlying161 (by rcases HGG.out with h | h | h <;> subst h <;> decide)) (curves_at G HGG.out).1))
    all_goals
      have hbC := below_two (below_drew wA) hbB
      have hkB := HKA.out.keep hbC
      have k2 := hkB.cell 2
      have f2 := hkB.frozen 2
      simp at k2
      have HKB := Lib.hid hkB
      have HBC := Lib.hid hbC
      have LZ := HBA.out.size
      have LY := hbC.size
      clear hmap hlk hbB hbC hkB
      go_wp2_with fail
      go_ret
      have TS := Tch.set wB g 2 (.pointer (some ⟨w9.heap.size, 0, none⟩))
      refine ⟨rfl, _, by simpa using HKB.out.set_ 2 (.pointer (some ⟨w9.heap.size, 0, none⟩)), (HCV.out.keep HBC.out).tch TS (by simp; omega), ?_⟩
      exact (((HT9.out.then (Tch.below HBA.out []) (by simp)).then (Tch.below HBC.out []) (by simp)).trans TS).toGrown
end Go.Proofs.YtkjpkenhpmjikaaDoor
