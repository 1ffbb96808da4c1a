/- Walks: supported versions, refused where bytes lack. -/
import Derived.Test.YtkjpkenhpmjikaaDoorExt
import Derived.Deep.RegionWith
namespace Go.Proofs.YtkjpkenhpmjikaaDoor
open Go.RowKit Go.Cv
set_option maxRecDepth 100000
set_option linter.unusedVariables false
theorem versType (v : Value) (w : World) :
    Calls Tryd.prog 100 #[.agg #[v]] w fun e w' => e = .returned (.int .u16 43) ∧ Below w.heap.size w w' := by
  go_enter Tryd.func100, Tryd.ntmps100
  go_wp2_with fail
  go_ret
  exact ⟨rfl, below_alloc _ _⟩
set_option maxHeartbeats 1000000 in
theorem vers_no1 (g b c : Nat) (l : List UInt8) (x0 : Value) (hl : l.length < 2) (ad : Addr) (w : World)
    (hk : Blk w g 126 #[x0]) (hr : Rd w (some ⟨b, 0, none⟩) (vs l)) (hlc : l.length ≤ c) (hbs : b < w.heap.size) (hg : w.cell? ⟨2, 0, none⟩ = some (.iface 210 (.pointer (some ad)))) :
    Calls Tryd.prog 67 #[.pointer (some ⟨g, 0, none⟩), .slice (some ⟨b, 0, none⟩) l.length c] w fun e w' =>
      e = .returned (.iface 210 (.pointer (some ad))) ∧ Below w.heap.size w w' := by
  have hgs := hk.lt
  have hS := Lib.hid (((Str.start (t := 168) hr hlc hbs).alloc (.cells #[.slice none 0 0] 168)).alloc (.cells #[.int .u16 0] 24))
  have hG := Lib.hid (fun w' (h : Below w.heap.size w w') => keep_of_below h _ _ hg)
  have HL := Lib.hid hl
  have HK := Lib.hid hk
  clear hl hr hg hk
  go_enter Tryd.func67, Tryd.ntmps67
  go_wp2_with fail
  refine (strU16_no w.heap.size b (w.heap.size + 2) l _ hS.out HL.out).mono ?_
  rintro e w1 ⟨rfl, rfl⟩
  have hq0 := (Blk.new ((w.alloc (.cells #[.slice (some ⟨b, 0, none⟩) l.length c] 168)).alloc (.cells #[.slice none 0 0] 168)) 24 #[.int .u16 0]).cell 0
  have hk0 := (HK.out.keep (w' := ((w.alloc (.cells #[.slice (some ⟨b, 0, none⟩) l.length c] 168)).alloc (.cells #[.slice none 0 0] 168)).alloc (.cells #[.int .u16 0] 24)) (by (repeat (first | assumption | exact Below.refl _ _ | refine Below.drew ?_ | refine Below.setCell ?_ (by first | omega | (simp; done) | (simp; omega)) _ | refine Below.alloc ?_ (by first | omega | (simp; done) | (simp; omega)) _)))).cell 0
  simp at hq0 hk0
  go_wp2_with fail
  clear hq0 hk0
  have hb2 : Below w.heap.size w (((w.alloc (.cells #[.slice (some ⟨b, 0, none⟩) l.length c] 168)).alloc (.cells #[.slice none 0 0] 168)).alloc (.cells #[.int .u16 0] 24)) := by (repeat (first | assumption | exact Below.refl _ _ | refine Below.drew ?_ | refine Below.setCell ?_ (by first | omega | (simp; done) | (simp; omega)) _ | refine Below.alloc ?_ (by first | omega | (simp; done) | (simp; omega)) _))
  have hq := (Blk.new ((w.alloc (.cells #[.slice (some ⟨b, 0, none⟩) l.length c] 168)).alloc (.cells #[.slice none 0 0] 168)) 24 #[.int .u16 0])
  simp only [World.size_alloc] at hq
  have hk2 := HK.out.keep hb2
  clear hS HK
  generalize hW : ((w.alloc (.cells #[.slice (some ⟨b, 0, none⟩) l.length c] 168)).alloc (.cells #[.slice none 0 0] 168)).alloc (.cells #[.int .u16 0] 24) = w1 at *
  clear hW
  have HB : Hid (∀ w', Below w1.heap.size w1 w' → w'.cell? ⟨w.heap.size + 2, 0, none⟩ = some (.int .u16 0) ∧ w'.cell? ⟨g, 0, none⟩ = some x0) := fun w' h => by
    have q1 := (hq.keep h).cell 0
    have q2 := (hk2.keep h).cell 0
    simp at q1 q2
    exact ⟨q1, q2⟩
  have HB2 := Lib.hid hb2
  clear hq hk2 hb2
  go_region_held3 (fun w' => w'.cell? ⟨w.heap.size + 2, 0, none⟩ = some (.int .u16 0) ∧ w'.cell? ⟨g, 0, none⟩ = some x0) ((refine HB.out _ ?_; first | ((repeat (first | assumption | exact Below.refl _ _ | refine Below.drew ?_ | refine Below.setCell ?_ (by first | omega | (simp; done) | (simp; omega)) _ | refine Below.alloc ?_ (by first | omega | (simp; done) | (simp; omega)) _)); done) | exact below_two (below_drew _) (by assumption)))
    (first | (go_at_call 100; refine (versType _ _).mono ?_; rintro e w2 ⟨rfl, hb2⟩))
  have hb3 : Below w.heap.size w w2 := below_two HB2.out (below_two (below_drew _) hb2)
  have hg3 := hG.out w2 hb3
  go_wp2_with fail
  go_ret
  exact ⟨rfl, hb3⟩
set_option maxHeartbeats 1000000 in
theorem vers_no2 (g b c : Nat) (l r : List UInt8) (x0 : Value) (hl : l = 0 :: 43 :: r) (hsh : Short2 r) (hm : (l.length : Int) ≤ 3000000000) (ad : Addr) (w : World)
    (hk : Blk w g 126 #[x0]) (hr : Rd w (some ⟨b, 0, none⟩) (vs l)) (hlc : l.length ≤ c) (hbs : b < w.heap.size) (hg : w.cell? ⟨0, 0, none⟩ = some (.iface 210 (.pointer (some ad)))) :
    Calls Tryd.prog 67 #[.pointer (some ⟨g, 0, none⟩), .slice (some ⟨b, 0, none⟩) l.length c] w fun e w' =>
      e = .returned (.iface 210 (.pointer (some ad))) ∧ Below w.heap.size w w' := by
  have hgs := hk.lt
  have hS := Lib.hid (((Str.start (t := 168) hr hlc hbs).alloc (.cells #[.slice none 0 0] 168)).alloc (.cells #[.int .u16 0] 24))
  have hQ := Blk.new ((w.alloc (.cells #[.slice (some ⟨b, 0, none⟩) l.length c] 168)).alloc (.cells #[.slice none 0 0] 168)) 24 #[.int .u16 0]
  have hZ := (Blk.new (w.alloc (.cells #[.slice (some ⟨b, 0, none⟩) l.length c] 168)) 168 #[.slice none 0 0]).alloc (.cells #[.int .u16 0] 24)
  simp only [World.size_alloc] at hQ hZ
  have HQ := Lib.hid hQ
  have HZ := Lib.hid hZ
  have hG := Lib.hid (fun w' (h : Below w.heap.size w w') => keep_of_below h _ _ hg)
  have HL := Lib.hid hl
  have HM := Lib.hid hm
  have HK := Lib.hid (((hk.alloc (.cells #[.slice (some ⟨b, 0, none⟩) l.length c] 168)).alloc (.cells #[.slice none 0 0] 168)).alloc (.cells #[.int .u16 0] 24))
  have LM : Hid ((r.length : Int) ≤ 3000000000) := Lib.hid (by rw [hl] at hm; simp at hm; omega)
  clear hl hr hg hk hQ hZ hm
  go_enter Tryd.func67, Tryd.ntmps67
  go_wp2_with fail
  refine (strU16_ok w.heap.size b (w.heap.size + 2) l r 0 43 HL.out 0 _ hS.out (by omega) HQ.out (by omega) (by omega) HM.out).mono ?_
  rintro e w1 ⟨rfl, hs1, hq1, ht1⟩
  have hk1 := HK.out.tch ht1 (by simp; omega)
  have hz1 := HZ.out.tch ht1 (by simp)
  have T1 : Tch [] w w1 := (((Tch.alloc w _).trans (Tch.alloc _ _)).trans (Tch.alloc _ _)).then ht1 (by simp)
  have hQ1 := hq1.cell 0
  have hK1 := hk1.cell 0
  simp at hQ1 hK1
  have HS1 := Lib.hid hs1
  have HZ1 := Lib.hid hz1
  have HT1 := Lib.hid T1
  clear hS HQ HZ HK ht1 hs1 hz1 T1
  go_wp2_with fail
  have HB : Hid (∀ w', Below w1.heap.size w1 w' → w'.cell? ⟨w.heap.size + 2, 0, none⟩ = some (.int .u16 43) ∧ w'.cell? ⟨g, 0, none⟩ = some x0) := fun w' h => by
    have q1 := (hq1.keep h).cell 0
    have q2 := (hk1.keep h).cell 0
    simp at q1 q2
    exact ⟨q1, q2⟩
  clear hq1 hk1 hQ1 hK1
  go_region_held3 (fun w' => w'.cell? ⟨w.heap.size + 2, 0, none⟩ = some (.int .u16 43) ∧ w'.cell? ⟨g, 0, none⟩ = some x0) ((refine HB.out _ ?_; first | ((repeat (first | assumption | exact Below.refl _ _ | refine Below.drew ?_ | refine Below.setCell ?_ (by first | omega | (simp; done) | (simp; omega)) _ | refine Below.alloc ?_ (by first | omega | (simp; done) | (simp; omega)) _)); done) | exact below_two (below_drew _) (by assumption)))
    (first | (go_at_call 100; refine (versType _ _).mono ?_; rintro e w2 ⟨rfl, hb2⟩))
  have hb2' : Below w1.heap.size w1 w2 := below_two (below_drew _) hb2
  have hs2 := HS1.out.tch (Tch.below hb2' []) (by simp) (by simp)
  have HT2 := Lib.hid (HT1.out.then (Tch.below hb2' []) (by simp))
  clear hb2
  go_wp2_with fail
  refine (str16_no w.heap.size b (w.heap.size + 1) r hsh w2 hs2 (by omega) LM.out).mono ?_
  rintro e w5 ⟨rfl, ht5⟩
  have hb5 : Below w.heap.size w w5 := (HT2.out.then ht5 (by simp)).toBelow (Nat.le_refl _)
  have hg5 := hG.out w5 hb5
  go_wp2_with fail
  go_ret
  exact ⟨rfl, hb5⟩
end Go.Proofs.YtkjpkenhpmjikaaDoor
