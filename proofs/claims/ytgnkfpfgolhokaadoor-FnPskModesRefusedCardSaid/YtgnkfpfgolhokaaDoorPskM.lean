/- Walks: modes of pre-shared keys, read. -/
import Derived.Test.YtgnkfpfgolhokaaDoorCid
import Derived.Deep.RegionWith
namespace Go.Proofs.YtgnkfpfgolhokaaDoor
open Go.RowKit Go.Cv
set_option maxRecDepth 100000
set_option linter.unusedVariables false
theorem pskmType (v : Value) (w : World) :
    Calls Tryd.prog 67 #[.agg #[v]] w fun e w' => e = .returned (.int .u16 45) ∧ Below w.heap.size w w' := by
  go_enter Tryd.func67, Tryd.ntmps67
  go_wp2_with fail
  go_ret
  exact ⟨rfl, below_alloc _ _⟩
theorem pskm_no1 (g b c : Nat) (l : List UInt8) (x0 : Value) (hl : l.length < 2) (ad : Addr) (w : World)
    (hk : Blk w g 75 #[x0]) (hr : Rd w (some ⟨b, 0, none⟩) (vs l)) (hlc : l.length ≤ c) (hbs : b < w.heap.size) (hg : w.cell? ⟨7, 0, none⟩ = some (.iface 135 (.pointer (some ad)))) :
    Calls Tryd.prog 38 #[.pointer (some ⟨g, 0, none⟩), .slice (some ⟨b, 0, none⟩) l.length c] w fun e w' =>
      e = .returned (.iface 135 (.pointer (some ad))) ∧ Below w.heap.size w w' := by
  have hS := Lib.hid ((Str.start (t := 122) hr hlc hbs).alloc (.cells #[.int .u16 0] 24))
  have hG := Lib.hid (fun w' (h : Below w.heap.size w w') => keep_of_below h _ _ hg)
  have HL := Lib.hid hl
  clear hl hr hg
  go_enter Tryd.func38, Tryd.ntmps38
  go_wp2_with fail
  have hb2 : Below w.heap.size w ((w.alloc (.cells #[.slice (some ⟨b, 0, none⟩) l.length c] 122)).alloc (.cells #[.int .u16 0] 24)) := by (repeat (first | assumption | exact Below.refl _ _ | refine Below.drew ?_ | refine Below.setCell ?_ (by first | omega | (simp; done) | (simp; omega)) _ | refine Below.alloc ?_ (by first | omega | (simp; done) | (simp; omega)) _))
  have hg2 := hG.out _ hb2
  have hs2 := hS.out
  generalize hW : (w.alloc (.cells #[.slice (some ⟨b, 0, none⟩) l.length c] 122)).alloc (.cells #[.int .u16 0] 24) = w2 at *
  have HS2 : Hid (Str w2.drew 122 w.heap.size b l) := hs2.tch (Tch.drew _) (by simp) (by simp)
  clear hs2 hS hG
  first
    | (go_region_with (first
        | (go_at_call 71; refine (strU16_no w.heap.size b (w.heap.size + 1) l _ HS2.out HL.out).mono ?_; rintro e w3 ⟨rfl, rfl⟩)))
    | fail "no"
  all_goals go_wp2_with fail
  all_goals go_ret
  all_goals exact ⟨rfl, hb2.drew⟩
theorem pskm_no2 (g b c : Nat) (l r : List UInt8) (x0 : Value) (hl : l = 0 :: 45 :: r) (hsh : Short2 r) (hm : (l.length : Int) ≤ 3000000000) (ad : Addr) (w : World)
    (hk : Blk w g 75 #[x0]) (hr : Rd w (some ⟨b, 0, none⟩) (vs l)) (hlc : l.length ≤ c) (hbs : b < w.heap.size) (hg : w.cell? ⟨8, 0, none⟩ = some (.iface 135 (.pointer (some ad)))) (hgg : g ≠ 8) :
    Calls Tryd.prog 38 #[.pointer (some ⟨g, 0, none⟩), .slice (some ⟨b, 0, none⟩) l.length c] w fun e w' =>
      e = .returned (.iface 135 (.pointer (some ad))) ∧ Below w.heap.size w w' := by
  have hgs := hk.lt
  have hS := Lib.hid ((Str.start (t := 122) hr hlc hbs).alloc (.cells #[.int .u16 0] 24))
  have hQ := Lib.hid (Blk.new (w.alloc (.cells #[.slice (some ⟨b, 0, none⟩) l.length c] 122)) 24 #[.int .u16 0])
  have hG := Lib.hid (fun w' (h : Below w.heap.size w w') => keep_of_below h _ _ hg)
  have HL := Lib.hid hl
  have HM := Lib.hid hm
  clear hl hr hg hm
  go_enter Tryd.func38, Tryd.ntmps38
  go_wp2_with fail
  have hb2 : Below w.heap.size w ((w.alloc (.cells #[.slice (some ⟨b, 0, none⟩) l.length c] 122)).alloc (.cells #[.int .u16 0] 24)) := by (repeat (first | assumption | exact Below.refl _ _ | refine Below.drew ?_ | refine Below.setCell ?_ (by first | omega | (simp; done) | (simp; omega)) _ | refine Below.alloc ?_ (by first | omega | (simp; done) | (simp; omega)) _))
  have hs2 := hS.out
  have hq2 := hQ.out
  have hk2 := (hk.alloc (.cells #[.slice (some ⟨b, 0, none⟩) l.length c] 122)).alloc (.cells #[.int .u16 0] 24)
  simp only [World.size_alloc] at hq2
  generalize hW : (w.alloc (.cells #[.slice (some ⟨b, 0, none⟩) l.length c] 122)).alloc (.cells #[.int .u16 0] 24) = w2 at *
  have HS2 : Hid (Str w2.drew 122 w.heap.size b l) := hs2.tch (Tch.drew _) (by simp) (by simp)
  have HQ2 : Hid (Blk w2.drew (w.heap.size + 1) 24 #[.int .u16 0]) := hq2
  have HK2 : Hid (Blk w2.drew g 75 #[x0]) := hk2
  have HB2 := Lib.hid hb2
  clear hs2 hS hQ hq2 hk2 hb2 hk
  first
    | (go_region_with (first
        | (go_at_call 71; refine (strU16_ok w.heap.size b (w.heap.size + 1) l r 0 45 HL.out 0 _ HS2.out (by omega) HQ2.out (by omega) (by omega) HM.out).mono ?_; rintro e w3 ⟨rfl, hs3, hq3, ht3⟩; have c3 := hq3.cell 0; have k3 := (HK2.out.tch ht3 (by simp; omega)).cell 0; simp at c3 k3; replace hs3 := Lib.hid hs3; replace hq3 := Lib.hid hq3; replace ht3 := Lib.hid ht3)
        | (go_at_call 67; refine (pskmType _ _).mono ?_; rintro e w4 ⟨rfl, hb4⟩; first | (have c4 := keep_of_below hb4 _ _ c3) | skip)))
    | fail "no"
  all_goals
    have T4 : Tch [] w w4 := ((Tch.below HB2.out []).then (Tch.drew _) (by simp)).then ht3.out (by simp) |>.then (Tch.below hb4 []) (by simp)
    have hs4 := Lib.hid (hs3.out.tch (Tch.below hb4 []) (by simp) (by simp))
    have L4 := T4.size
    have L5 := hs4.out.lt
    have HT4 := Lib.hid T4
    have LM : Hid ((r.length : Int) ≤ 3000000000) := Lib.hid (by have h1 := HM.out; have h2 := HL.out; rw [h2] at h1; simp at h1; omega)
    clear T4 hs3 hq3 ht3 hb4 HB2 HS2 HQ2 HK2 c3 k3
    go_wp2_with fail
    refine (str16_no w.heap.size b w4.heap.size r hsh _ (hs4.out.alloc _) (by omega) LM.out).mono ?_
    rintro e w5 ⟨rfl, ht5⟩
    have hb5 : Below w.heap.size w w5 := ((HT4.out.then (Tch.alloc _ _) (by simp)).then ht5 (by simp)).toBelow (Nat.le_refl _)
    have hg5 := hG.out w5 hb5
    go_wp2_with fail
    go_ret
    exact ⟨rfl, hb5⟩
end Go.Proofs.YtgnkfpfgolhokaaDoor
