/- Walks: modes without a byte, refused when read. -/
import Derived.Test.YtgnkfpfgolhokaaDoorPskMRead
import Derived.Deep.RegionWith
namespace Go.Proofs.YtgnkfpfgolhokaaDoor
open Go.RowKit Go.Cv
set_option maxRecDepth 100000
set_option linter.unusedVariables false
set_option maxHeartbeats 4000000 in
theorem pskm_empty (g b c : Nat) (l ms : List UInt8) (x y z : UInt8) (x0 : Value) (hl : l = 0 :: 45 :: x :: y :: z :: ms) (hxy : x.toNat * 256 + y.toNat = ms.length + 1) (hz : ms.length = z.toNat) (hm0 : ms.length = 0) (ad : Addr) (w : World)
    (hk : Blk w g 75 #[x0]) (hr : Rd w (some ⟨b, 0, none⟩) (vs l)) (hlc : l.length ≤ c) (hbs : b < w.heap.size) (hgb : g ≠ b) (hg9 : w.cell? ⟨9, 0, none⟩ = some (.iface 135 (.pointer (some ad)))) :
    Calls Tryd.prog 38 #[.pointer (some ⟨g, 0, none⟩), .slice (some ⟨b, 0, none⟩) l.length c] w fun e w' =>
      e = .returned (.iface 135 (.pointer (some ad))) ∧ Below w.heap.size w w' := by
  have hz1 := z.toNat_lt
  have em : decide (ms.length = 0) = true := by simpa using hm0
  have HG9 := Lib.hid hg9
  have hgs := hk.lt
  have hS := Lib.hid ((Str.start (t := 122) hr hlc hbs).alloc (.cells #[.int .u16 0] 24))
  have hQ := Lib.hid (Blk.new (w.alloc (.cells #[.slice (some ⟨b, 0, none⟩) l.length c] 122)) 24 #[.int .u16 0])
  have HL := Lib.hid hl
  have hll : l.length = ms.length + 5 := by rw [hl]; simp
  have HM : Hid ((l.length : Int) ≤ 3000000000) := Lib.hid (by omega)
  have HXY := Lib.hid hxy
  have HZ := Lib.hid hz
  have HML : Hid (ms.length < 256) := Lib.hid (by omega)
  clear hxy hz hz1 hg9
  clear hl hr hll
  go_enter Tryd.func38, Tryd.ntmps38
  go_wp2_with fail
  have hb2 : Below w.heap.size w ((w.alloc (.cells #[.slice (some ⟨b, 0, none⟩) l.length c] 122)).alloc (.cells #[.int .u16 0] 24)) := by (repeat (first | assumption | exact Below.refl _ _ | refine Below.drew ?_ | refine Below.setCell ?_ (by first | omega | (simp; done) | (simp; omega)) _ | refine Below.alloc ?_ (by first | omega | (simp; done) | (simp; omega)) _))
  have hs2 := hS.out
  have hq2 := hQ.out
  have hk2 := (hk.alloc (.cells #[.slice (some ⟨b, 0, none⟩) l.length c] 122)).alloc (.cells #[.int .u16 0] 24)
  simp only [World.size_alloc] at hq2
  generalize hW : (w.alloc (.cells #[.slice (some ⟨b, 0, none⟩) l.length c] 122)).alloc (.cells #[.int .u16 0] 24) = w2 at *
  have HS2 : Hid (Str w2.drew 122 w.heap.size b l) := hs2.tch (Tch.drew _) (by simp) (by simp)
  have HQ2 : Hid (Blk w2.drew (w.heap.size + 1) 24 #[.int .u16 0]) := hq2
  have HK2 : Hid (Blk w2.drew g 75 #[x0]) := hk2
  have HB2 := Lib.hid hb2
  clear hs2 hS hQ hq2 hk2 hb2 hk
  first
    | (go_region_with (first
        | (go_at_call 71; refine (strU16_ok w.heap.size b (w.heap.size + 1) l (x :: y :: z :: ms) 0 45 HL.out 0 _ HS2.out (by omega) HQ2.out (by omega) (by omega) HM.out).mono ?_; rintro e w3 ⟨rfl, hs3, hq3, ht3⟩; have c3 := hq3.cell 0; have hk3 := HK2.out.tch ht3 (by simp; omega); have k3 := hk3.cell 0; simp at c3 k3; replace hs3 := Lib.hid hs3; replace hq3 := Lib.hid hq3; replace ht3 := Lib.hid ht3; replace hk3 := Lib.hid hk3)
        | (go_at_call 67; refine (pskmType _ _).mono ?_; rintro e w4 ⟨rfl, hb4⟩; first | (have c4 := keep_of_below hb4 _ _ c3) | skip)))
    | fail "no"
  all_goals
    have T4 : Tch [] w w4 := (((Tch.below HB2.out []).then (Tch.drew _) (by simp)).then ht3.out (by simp)).then (Tch.below hb4 []) (by simp)
    have hs4 := Lib.hid (hs3.out.tch (Tch.below hb4 []) (by simp) (by simp))
    have hk4 := Lib.hid (hk3.out.keep hb4)
    have L4 := T4.size
    have L5 := hs4.out.lt
    have HT4 := Lib.hid T4
    clear T4 hs3 hk3 hq3 ht3 hb4 HB2 HS2 HQ2 HK2 c3 k3
    go_wp2_with fail
    refine (str16_ok w.heap.size b w4.heap.size (x :: y :: z :: ms) (z :: ms) (z :: ms) [] x y (ms.length + 1) rfl HXY.out (by simp) (by simp) (.slice none 0 0) _ (hs4.out.alloc _) (by omega) (Blk.new _ _ _) (by omega) (by omega) (by have := HML.out; simp; omega)).mono ?_
    rintro e w5 ⟨rfl, hs5, hp5, ht5⟩
    have hk5 := (hk4.out.alloc _).tch ht5 (by simp; omega)
    have T5 := (HT4.out.then (Tch.alloc w4 _) (by simp)).then ht5 (by simp; omega)
    have L6 := hs5.lt
    have L7 := T5.size
    have HT5 := Lib.hid T5
    have HS5 := Lib.hid hs5
    have HK5 := Lib.hid hk5
    clear hs4 hk4 HT4 hp5 ht5 T5 hs5 hk5
    go_wp2_with fail
    refine (str8_ok w4.heap.size b w5.heap.size (z :: ms) ms ms [] z rfl (by simp) HZ.out (.slice none 0 0) _ (HS5.out.alloc _) (by omega) (Blk.new _ _ _) (by omega) (by omega) (by have := HML.out; simp; omega)).mono ?_
    rintro e w6 ⟨rfl, hs6, hp6, ht6⟩
    have hk6 := (HK5.out.alloc _).tch ht6 (by simp; omega)
    have T6 := (HT5.out.then (Tch.alloc w5 _) (by simp)).then ht6 (by simp; omega)
    have L8 := hs6.lt
    have L9 := T6.size
    obtain ⟨o6, c6, hc6, hn6, hr6⟩ := hs6.cell
    obtain ⟨o7, c7, hc7, hn7, hr7⟩ := hp6.cell
    have HK6 := Lib.hid hk6
    have HT6 := Lib.hid T6
    have HR6 := Lib.hid hr6
    have HS6 := Lib.hid hs6
    clear HS5 HK5 HT5 hs6 hp6 ht6 hk6 T6 hr6 hr7
    go_wp2_with fail
    refine (strEmpty_any _ _ _ _).mono ?_
    rintro e w7 ⟨rfl, rfl⟩
    first | rw [em] | rw [show decide (0 = 0) = true from rfl]
    have hbb : Below w.heap.size w w6 := HT6.out.toBelow (Nat.le_refl _)
    have hg6 := keep_of_below hbb _ _ HG9.out
    have HBB := Lib.hid hbb
    clear hbb
    go_wp2_with fail
    go_ret
    exact ⟨rfl, HBB.out⟩
theorem pskmRead_empty (l : List UInt8) (hl : l = [0, 45, 0, 1, 0]) (w : World) (ad0 : Addr)
    (hg0 : w.cell? ⟨9, 0, none⟩ = some (.iface 135 (.pointer (some ad0)))) :
    Calls Tryd.prog 23 #[.string (S l)] w fun e w' => e = .returned (.tuple #[.agg zeroExt, .bool false]) ∧ Below w.heap.size w w' := by
  have HC : Hid (∀ (g b c : Nat) (x0 : Value) (w1 : World), Below w.heap.size w w1 → w.heap.size ≤ g → Blk w1 g 75 #[x0] → Rd w1 (some ⟨b, 0, none⟩) (vs l) → l.length ≤ c → b < w1.heap.size → g ≠ b → Calls Tryd.prog 38 #[.pointer (some ⟨g, 0, none⟩), .slice (some ⟨b, 0, none⟩) l.length c] w1 fun e w' =>
      ∃ ad, e = .returned (.iface 135 (.pointer (some ad))) ∧ Below w1.heap.size w1 w') := fun g b c x0 w1 hb hg hk hr hlc hbs hgb => by
    exact (pskm_empty g b c l [] 0 1 0 x0 hl (by decide) (by decide) rfl ad0 w1 hk hr hlc hbs hgb (keep_of_below hb _ _ hg0)).mono (fun e w' h => ⟨_, h⟩)
  have HLM : Hid (l.length ≤ maxLen) := Lib.hid (by rw [hl]; simp [maxLen])
  clear hl hg0
  go_enter Tryd.func23, Tryd.ntmps23
  go_wp2_with fail
  refine upon_conv_sb 9 25 5 Tryd.underlying9 Tryd.underlying25 Tryd.underlying5 l HLM.out ?_
  intro c w1 hown hb hlt
  have hk := ((Blk.new _ 75 #[.slice none 0 0])).keep hb
  have hM := ((Blk.new w 34 _).alloc _).keep hb
  have hr := hown.rd
  have hb1 : Below w.heap.size w w1 := below_two (by (repeat (first | assumption | exact Below.refl _ _ | refine Below.drew ?_ | refine Below.setCell ?_ (by first | omega | (simp; done) | (simp; omega)) _ | refine Below.alloc ?_ (by first | omega | (simp; done) | (simp; omega)) _))) hb
  have hlc := hown.2.1
  simp only [World.size_alloc] at hk hM hr hlt
  clear hown hb
  go_wp2_with fail
  refine (HC.out (w.heap.size + 1) _ c _ w1 hb1 (by omega) hk hr hlc hlt (by omega)).mono ?_
  rintro e w2 ⟨ad, rfl, hb2⟩
  have hM2 := hM.keep hb2
  have hb4 := below_two hb1 hb2
  clear hk hr hM hb1 hb2 HC
  go_wp2_with (with_reducible refine Held.store 34 ?_)
  refine held_store_row (cells := zeroExt) hM2 extInfo rfl rfl rfl (by simp [zeroExt, Value.oneCell']) fun w5 hk5 hg5 _ => ?_
  go_wp2_with fail
  exact bodyPost_cell2 rfl rfl rfl hk5 Tryd.underlying34 extInfo ⟨rfl, hb4.grown hg5 hb4.size (fun k hk' => by simp at hk'; omega)⟩
end Go.Proofs.YtgnkfpfgolhokaaDoor
