/- Walks: modes of pre-shared keys, read whole or cut. -/
import Derived.Test.YtgnkfpfgolhokaaDoorPskMData
import Derived.Test.YtgnkfpfgolhokaaDoorNums
namespace Go.Proofs.YtgnkfpfgolhokaaDoor
open Go.RowKit Go.Cv
set_option maxRecDepth 100000
set_option linter.unusedVariables false
theorem pskmRead_ok (l ms : List UInt8) (x y z : UInt8) (hl : l = 0 :: 45 :: x :: y :: z :: ms) (hxy : x.toNat * 256 + y.toNat = ms.length + 1) (hz : ms.length = z.toNat) (hm0 : 0 < ms.length) (w : World) :
    Calls Tryd.prog 23 #[.string (S l)] w fun e w' => ∃ A' c', e = .returned (.tuple #[.agg (pmMsg A' ms.length c'), .bool true]) ∧ Below w.heap.size w w' := by
  have hz1 := z.toNat_lt
  have hll : l.length = ms.length + 5 := by rw [hl]; simp
  have HC := Lib.hid (fun g b c x0 w hk hr hlc hbs hgb => pskm_ok g b c l ms x y z x0 hl hxy hz hm0 w hk hr hlc hbs hgb)
  have HLM : Hid (l.length ≤ maxLen) := Lib.hid (by simp only [maxLen]; omega)
  have HN : Hid ((ms.length : Int) < 256) := Lib.hid (by omega)
  clear hl hxy hll hz hz1
  go_enter Tryd.func23, Tryd.ntmps23
  go_wp2_with fail
  refine upon_conv_sb 9 25 5 Tryd.underlying9 Tryd.underlying25 Tryd.underlying5 l HLM.out ?_
  intro c w1 hown hb hlt
  have hk := ((Blk.new _ 75 #[.slice none 0 0])).keep hb
  have hM := ((Blk.new w 34 _).alloc _).keep hb
  have hr := hown.rd
  have hb1 : Below w.heap.size w w1 := below_two (by (repeat (first | assumption | exact Below.refl _ _ | refine Below.drew ?_ | refine Below.setCell ?_ (by first | omega | (simp; done) | (simp; omega)) _ | refine Below.alloc ?_ (by first | omega | (simp; done) | (simp; omega)) _))) hb
  have hlc := hown.2.1
  simp only [World.size_alloc] at hk hM hr hlt
  clear hown hb
  go_wp2_with fail
  refine (HC.out (w.heap.size + 1) _ c _ w1 hk hr hlc hlt (by omega)).mono ?_
  rintro e w2 ⟨rfl, A', c', hk2, hr2, hg2⟩
  have hM2 := hM.grown hg2 (by simp)
  have hb2 := hb1.grown hg2 hb1.size (fun k hk => by simp at hk; omega)
  obtain ⟨b2, o2, rfl⟩ := hr2.addr (by intro h; rw [h] at hm0; simp at hm0)
  have hb2s : b2 < w2.heap.size := block_lt (hr2.byte 0 hm0)
  clear hk hr hM hb1 hg2 HC
  go_wp2_with fail
  refine (dataPskm_any (w.heap.size + 1) b2 o2 ms.length c' ms w2 hk2 rfl HN.out hr2 hb2s).mono ?_
  rintro e w3 ⟨A3, c3, rfl, hb3⟩
  have hM3 := hM2.keep hb3
  have hb4 := below_two hb2 hb3
  clear hM2 hk2 hr2 hb2 hb3
  go_wp2_with (with_reducible refine Held.store 34 ?_)
  refine held_store_row (cells := pmMsg A3 ms.length c3) hM3 extInfo rfl rfl rfl (by simp [pmMsg, Value.oneCell']) fun w5 hk5 hg5 _ => ?_
  go_wp2_with fail
  exact bodyPost_cell2 rfl rfl rfl hk5 Tryd.underlying34 extInfo ⟨_, _, rfl, hb4.grown hg5 hb4.size (fun k hk' => by simp at hk'; omega)⟩
/-- What is refused. -/
def Cut (a b : UInt8) (l : List UInt8) : Prop := l.length < 2 ∨ ∃ r, l = a :: b :: r ∧ Short2 r
theorem pskmRead_no (l : List UInt8) (hc : Cut 0 45 l) (hm : (l.length : Int) ≤ 3000000000) (w : World) (ad0 ad2 : Addr)
    (hg0 : w.cell? ⟨8, 0, none⟩ = some (.iface 135 (.pointer (some ad0)))) (hg2 : w.cell? ⟨7, 0, none⟩ = some (.iface 135 (.pointer (some ad2)))) :
    Calls Tryd.prog 23 #[.string (S l)] w fun e w' => e = .returned (.tuple #[.agg zeroExt, .bool false]) ∧ Below w.heap.size w w' := by
  have hwg := block_lt hg0
  have HC : Hid (∀ (g b c : Nat) (x0 : Value) (w1 : World), Below w.heap.size w w1 → w.heap.size ≤ g → Blk w1 g 75 #[x0] → Rd w1 (some ⟨b, 0, none⟩) (vs l) → l.length ≤ c → b < w1.heap.size → Calls Tryd.prog 38 #[.pointer (some ⟨g, 0, none⟩), .slice (some ⟨b, 0, none⟩) l.length c] w1 fun e w' =>
      ∃ ad, e = .returned (.iface 135 (.pointer (some ad))) ∧ Below w1.heap.size w1 w') := fun g b c x0 w1 hb hg hk hr hlc hbs => by
    rcases hc with h | ⟨r, h, hs⟩
    · exact (pskm_no1 g b c l x0 h ad2 w1 hk hr hlc hbs (keep_of_below hb _ _ hg2)).mono (fun e w' h => ⟨_, h⟩)
    · exact (pskm_no2 g b c l r x0 h hs hm ad0 w1 hk hr hlc hbs (keep_of_below hb _ _ hg0) (by simp only at hwg; omega)).mono (fun e w' h => ⟨_, h⟩)
  have HLM : Hid (l.length ≤ maxLen) := Lib.hid (by simp only [maxLen]; omega)
  clear hc hm hg0 hg2 hwg
  go_enter Tryd.func23, Tryd.ntmps23
  go_wp2_with fail
  refine upon_conv_sb 9 25 5 Tryd.underlying9 Tryd.underlying25 Tryd.underlying5 l HLM.out ?_
  intro c w1 hown hb hlt
  have hk := ((Blk.new _ 75 #[.slice none 0 0])).keep hb
  have hM := ((Blk.new w 34 _).alloc _).keep hb
  have hr := hown.rd
  have hb1 : Below w.heap.size w w1 := below_two (by (repeat (first | assumption | exact Below.refl _ _ | refine Below.drew ?_ | refine Below.setCell ?_ (by first | omega | (simp; done) | (simp; omega)) _ | refine Below.alloc ?_ (by first | omega | (simp; done) | (simp; omega)) _))) hb
  have hlc := hown.2.1
  simp only [World.size_alloc] at hk hM hr hlt
  clear hown hb
  go_wp2_with fail
  refine (HC.out (w.heap.size + 1) _ c _ w1 hb1 (by omega) hk hr hlc hlt).mono ?_
  rintro e w2 ⟨ad, rfl, hb2⟩
  have hM2 := hM.keep hb2
  have hb4 := below_two hb1 hb2
  clear hk hr hM hb1 hb2 HC
  go_wp2_with (with_reducible refine Held.store 34 ?_)
  refine held_store_row (cells := zeroExt) hM2 extInfo rfl rfl rfl (by simp [zeroExt, Value.oneCell']) fun w5 hk5 hg5 _ => ?_
  go_wp2_with fail
  exact bodyPost_cell2 rfl rfl rfl hk5 Tryd.underlying34 extInfo ⟨rfl, hb4.grown hg5 hb4.size (fun k hk' => by simp at hk'; omega)⟩
end Go.Proofs.YtgnkfpfgolhokaaDoor
