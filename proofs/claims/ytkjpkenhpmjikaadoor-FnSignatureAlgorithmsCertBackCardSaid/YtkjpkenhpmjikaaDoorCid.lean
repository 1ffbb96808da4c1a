/- Walks: a connection ID's extension, read. -/
import Derived.Test.YtkjpkenhpmjikaaDoorStr2
namespace Go.Proofs.YtkjpkenhpmjikaaDoor
open Go.RowKit Go.Cv
set_option maxRecDepth 100000
set_option linter.unusedVariables false
theorem extInfo : (Tryd.prog.info? 35).map (·.size) = some 13 := by kernel_rfl
theorem cidType (v : Value) (w : World) :
    Calls Tryd.prog 95 #[.agg #[v]] w fun e w' => e = .returned (.int .u16 54) ∧ Below w.heap.size w w' := by
  go_enter Tryd.func95, Tryd.ntmps95
  go_wp2_with fail
  go_ret
  exact ⟨rfl, below_alloc _ _⟩
theorem cid_ok (g b c : Nat) (l m : List UInt8) (x0 : Value) (x y z : UInt8) (hl : l = 0 :: 54 :: x :: y :: z :: m) (hxy : x.toNat * 256 + y.toNat = m.length + 1) (hz : m.length = z.toNat) (w : World)
    (hk : Blk w g 117 #[x0]) (hr : Rd w (some ⟨b, 0, none⟩) (vs l)) (hlc : l.length ≤ c) (hbs : b < w.heap.size) (hgb : g ≠ b) :
    Calls Tryd.prog 63 #[.pointer (some ⟨g, 0, none⟩), .slice (some ⟨b, 0, none⟩) l.length c] w fun e w' =>
      e = .returned .nilIface ∧ ∃ A' c', Blk w' g 117 #[.slice A' m.length c'] ∧ Rd w' A' (vs m) ∧ w.grownBy w' (some g) := by
  have hgs := hk.lt
  have hz1 := z.toNat_lt
  have hll : l.length = m.length + 5 := by rw [hl]; simp
  have hm : (l.length : Int) ≤ 3000000000 := by omega
  have hS := Lib.hid ((Str.start (t := 168) hr hlc hbs).alloc (.cells #[.int .u16 0] 24))
  have hQ := Lib.hid (Blk.new (w.alloc (.cells #[.slice (some ⟨b, 0, none⟩) l.length c] 168)) 24 #[.int .u16 0])
  have HL := Lib.hid hl
  have HLL := Lib.hid hll
  clear hl hll
  go_enter Tryd.func63, Tryd.ntmps63
  go_wp2_with fail
  refine (strU16_ok w.heap.size b (w.heap.size + 1) l (x :: y :: z :: m) 0 54 HL.out 0 _ hS.out (by omega) (by simpa using hQ.out) (by omega) (by omega) hm).mono ?_
  rintro e w1 ⟨rfl, hs1, hq1, ht1⟩
  have hk1 := ((hk.alloc _).alloc _).tch ht1 (by simp; omega)
  have T1 := ((((Tch.alloc w _).trans (Tch.alloc _ _)).more (M := [g]) (by simp)).then ht1 (by simp))
  have hQ1 := hq1.cell 0
  have hK1 := hk1.cell 0
  simp at hQ1 hK1
  have L1 := T1.size
  have L2 := hq1.lt
  clear hS hQ hk hr ht1
  go_wp2_with fail
  have HB : Hid (∀ w', Below w1.heap.size w1 w' → w'.cell? ⟨w.heap.size + 1, 0, none⟩ = some (.int .u16 54) ∧ w'.cell? ⟨g, 0, none⟩ = some x0) := fun w' h => by
    have q1 := (hq1.keep h).cell 0
    have q2 := (hk1.keep h).cell 0
    simp at q1 q2
    exact ⟨q1, q2⟩
  go_region_held3 (fun w' => w'.cell? ⟨w.heap.size + 1, 0, none⟩ = some (.int .u16 54) ∧ w'.cell? ⟨g, 0, none⟩ = some x0) ((refine HB.out _ ?_; first | ((repeat (first | assumption | exact Below.refl _ _ | refine Below.drew ?_ | refine Below.setCell ?_ (by first | omega | (simp; done) | (simp; omega)) _ | refine Below.alloc ?_ (by first | omega | (simp; done) | (simp; omega)) _)); done) | exact below_two (below_drew _) (by assumption)))
    (first | (go_at_call 95; refine (cidType _ _).mono ?_; rintro e w2 ⟨rfl, hb2⟩))
  have hb2' : Below w1.heap.size w1 w2 := below_two (below_drew _) hb2
  have L3b := hb2'.size
  have T2 := T1.then (Tch.below hb2' []) (by simp)
  have hs2 := hs1.tch (Tch.below hb2' []) (by simp) (by simp)
  have hk2 := hk1.keep hb2'
  clear HB hq1 hQ1 hK1 hb2 hb2' hs1 hk1
  go_wp2_with fail
  have ly : (y :: z :: m).length ≤ 3000000000 := by simp; omega
  have HM := Lib.hid hm
  have HXY := Lib.hid hxy
  have HZ := Lib.hid hz
  have L3 := T2.size
  clear hm
  refine (str16_ok w.heap.size b w2.heap.size (x :: y :: z :: m) (z :: m) (z :: m) [] x y (m.length + 1) rfl HXY.out (by simp) (by simp) (.slice none 0 0) _ (hs2.alloc _) (by omega) (Blk.new _ _ _) (by omega) (by omega) (by simp; omega)).mono ?_
  rintro e w3 ⟨rfl, hs3, hp3, ht3⟩
  have hk3 := (hk2.alloc _).tch ht3 (by simp; omega)
  have T3 := (T2.then (Tch.alloc w2 _) (by simp)).then ht3 (by simp; omega)
  have L4 := hs3.lt
  have L5 := T3.size
  clear hs2 hk2 T2 hp3 ht3
  go_wp2_with fail
  refine (str8_ok w2.heap.size b w3.heap.size (z :: m) m m [] z rfl (by simp) HZ.out (.slice none 0 0) _ (hs3.alloc _) (by omega) (Blk.new _ _ _) (by omega) (by omega) (by simp; omega)).mono ?_
  rintro e w4 ⟨rfl, hs4, hp4, ht4⟩
  have hk4 := (hk3.alloc _).tch ht4 (by simp; omega)
  have T4 := (T3.then (Tch.alloc w3 _) (by simp)).then ht4 (by simp; omega)
  have L6 := hs4.lt
  have L7 := T4.size
  obtain ⟨o5, c5, hc5, hn5, hr5⟩ := hp4.cell
  clear hs3 hk3 T3 ht4 hr5
  go_wp2_with fail
  refine (strEmpty_any _ _ _ _).mono ?_
  rintro e w5 ⟨rfl, rfl⟩
  obtain ⟨o6, c6, hc6, hn6, hr6⟩ := hs4.cell
  go_wp2_with fail
  refine upon_make 54 5 (.int .u8 0) 1 Tryd.underlying54 u8info rfl z.toNat z.toNat rfl rfl (Nat.le_refl _) (by omega) (by simp only [maxLen]; omega) ?_
  intro w5 hown hb5 hsz5
  have hk5 := hk4.keep hb5
  have hs5 := hs4.tch (Tch.below hb5 []) (by simp) (by simp)
  have T5 := T4.then (Tch.below hb5 []) (by simp)
  have q5 := hk5.cell 0
  have f5 := hk5.frozen 0
  simp at q5
  have HS5 := Lib.hid hs5
  have HO5 := Lib.hid hown
  have HK5 := Lib.hid hk5
  have HT5 := Lib.hid T5
  have L8 := hb5.size
  clear hk4 hs4 T4 hown hk5 hs5 T5 hb5 hp4 hc5 hc6 hn5 hn6 hr6
  go_wp2_with fail
  have TG := Tch.set w5 g 0 (.slice (some ⟨w4.heap.size, 0, none⟩) z.toNat z.toNat)
  refine (strCopy_ok w3.heap.size b w4.heap.size w4.heap.size z.toNat z.toNat m _ _ (HS5.out.tch TG (by simp; omega) (by simp; omega)) (by omega) (HO5.out.grown TG.toGrown (.inl (by simp; omega))) (by omega) (by omega) HZ.out.symm (by have := HZ.out; omega)).mono ?_
  rintro e w6 ⟨rfl, hO6, ht6⟩
  go_wp2_with fail
  go_ret
  have hK := (HK5.out.set_ 0 (.slice (some ⟨w4.heap.size, 0, none⟩) z.toNat z.toNat)).tch ht6 (by simp; omega)
  have T6 := ((HT5.out.trans TG).then ht6 (by simp; omega)).toGrown
  exact ⟨rfl, _, _, by rw [HZ.out]; simpa using hK, hO6.rd, T6⟩
end Go.Proofs.YtkjpkenhpmjikaaDoor
