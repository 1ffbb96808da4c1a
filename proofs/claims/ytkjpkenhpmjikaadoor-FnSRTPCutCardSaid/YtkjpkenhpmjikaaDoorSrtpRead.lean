/- Walks: SRTP profiles, read whole or cut. -/
import Derived.Test.YtkjpkenhpmjikaaDoorSrtpData
import Derived.Test.YtkjpkenhpmjikaaDoorNums
namespace Go.Proofs.YtkjpkenhpmjikaaDoor
open Go.RowKit Go.Cv
set_option maxRecDepth 100000
set_option linter.unusedVariables false
theorem srtpRead_ok (l : List UInt8) (p q u v y : UInt8) (zs : List Nat) (mki : List UInt8) (hl : l = 0 :: 14 :: p :: q :: u :: v :: (flat 2 zs ++ y :: mki)) (k m N : Nat) (hkk : zs.length = k) (hmm : mki.length = m) (huv : u.toNat * 256 + v.toNat = k * 2) (hpq : p.toNat * 256 + q.toNat = N) (hNm : N = k * 2 + 3 + m) (hY : y.toNat = m) (hz : ∀ z ∈ zs, isProfile z) (hk1 : k ≤ 1000) (h0 : 0 < zs.length) (w : World) :
    Calls Tryd.prog 20 #[.string (S l)] w fun e w' => ∃ A' c', e = .returned (.tuple #[.agg (srMsg mki A' k c'), .bool true]) ∧ Below w.heap.size w w' := by
  have hy8 := y.toNat_lt
  have hll : l.length = k * 2 + 7 + m := by rw [hl]; simp [flat_length, hkk, hmm]; omega
  have HC := Lib.hid (fun g b c w hk hr hlc hbs hgb => srtp_ok g b c l p q u v y zs mki hl k m N hkk hmm huv hpq hNm hY hz hk1 w hk hr hlc hbs hgb)
  have HN : Hid ((k : Int) ≤ 1000) := Lib.hid (by omega)
  have HLM : Hid (l.length ≤ maxLen) := Lib.hid (by simp only [maxLen]; omega)
  have HKK := Lib.hid hkk
  have HMM := Lib.hid hmm
  clear hl hpq huv hz hll hNm hY hk1 hkk hmm hy8
  go_enter Tryd.func20, Tryd.ntmps20
  go_wp2_with fail
  refine upon_conv_sb 9 54 5 Tryd.underlying9 Tryd.underlying54 Tryd.underlying5 l HLM.out ?_
  intro c w1 hown hb hlt
  have hk := ((Blk.new _ 79 #[.slice none 0 0, .slice none 0 0])).keep hb
  have hM := ((Blk.new w 35 _).alloc _).keep hb
  have hr := hown.rd
  have hb1 : Below w.heap.size w w1 := below_two (by (repeat (first | assumption | exact Below.refl _ _ | refine Below.drew ?_ | refine Below.setCell ?_ (by first | omega | (simp; done) | (simp; omega)) _ | refine Below.alloc ?_ (by first | omega | (simp; done) | (simp; omega)) _))) hb
  have hlc := hown.2.1
  simp only [World.size_alloc] at hk hM hr hlt
  clear hown hb
  go_wp2_with fail
  refine (HC.out (w.heap.size + 1) _ c w1 hk hr hlc hlt (by omega)).mono ?_
  rintro e w2 ⟨rfl, A', c', A2, c2, hkx, hr2, hr3, hg2⟩
  have hM2 := hM.grown hg2 (by simp)
  have hb2 := hb1.grown hg2 hb1.size (fun k hk => by simp at hk; omega)
  obtain ⟨b2, o2, rfl⟩ : ∃ b2 o2, A' = some ⟨b2, o2, none⟩ := by
    rcases hr2 with h | ⟨b2, o2, h, _⟩
    · have := congrArg List.length h
      simp [zv] at this
      rw [this] at h0; simp at h0
    · exact ⟨b2, o2, h⟩
  have hb2s : b2 < w2.heap.size := block_lt (numCell hr2 0 h0)
  clear hk hr hM hb1 hg2 HC
  go_wp2_with fail
  refine (dataSRTP_any (w.heap.size + 1) b2 o2 k c' m c2 A2 zs mki w2 hkx HMM.out hr3 HKK.out HN.out hr2 hb2s).mono ?_
  rintro e w3 ⟨A3, c3, rfl, hb3⟩
  have hM3 := hM2.keep hb3
  have hb4 := below_two hb2 hb3
  clear hM2 hkx hr2 hb2 hb3 hr3
  go_wp2_with (with_reducible refine Held.store 35 ?_)
  refine held_store_row (cells := srMsg mki A3 k c3) hM3 extInfo rfl rfl rfl (by simp [srMsg, Value.oneCell']) fun w5 hk5 hg5 _ => ?_
  go_wp2_with fail
  exact bodyPost_cell2 rfl rfl rfl hk5 Tryd.underlying35 extInfo ⟨_, _, rfl, hb4.grown hg5 hb4.size (fun k hk' => by simp at hk'; omega)⟩
/-- What is refused. -/
def SCut (l : List UInt8) : Prop := l.length < 7 ∨ ∃ p q u v r k, l = 0 :: 14 :: p :: q :: u :: v :: r ∧ UInt8.toNat u * 256 + UInt8.toNat v = k * 2 ∧ k ≤ 1000 ∧ 7 ≤ l.length ∧ l.length ≤ 3000 ∧ (l.length < 2 * k + 7 ∨ 2 * k + 7 ≤ l.length ∧ l.length ≤ 6 + 2 * k + (l.getD (6 + 2 * k) 0).toNat)
theorem srtpRead_no (l : List UInt8) (hc : SCut l) (hm : (l.length : Int) ≤ 3000000000) (w : World) (ad0 ad2 : Addr)
    (hg0 : w.cell? ⟨0, 0, none⟩ = some (.iface 210 (.pointer (some ad0)))) (hg2 : w.cell? ⟨3, 0, none⟩ = some (.iface 210 (.pointer (some ad2)))) :
    Calls Tryd.prog 20 #[.string (S l)] w fun e w' => e = .returned (.tuple #[.agg zeroExt, .bool false]) ∧ Below w.heap.size w w' := by
  have hwg := block_lt hg0
  have HC : Hid (∀ (g b c : Nat) (x0 x1 : Value) (w1 : World), Below w.heap.size w w1 → w.heap.size ≤ g → Blk w1 g 79 #[x0, x1] → Rd w1 (some ⟨b, 0, none⟩) (vs l) → l.length ≤ c → b < w1.heap.size → Calls Tryd.prog 43 #[.pointer (some ⟨g, 0, none⟩), .slice (some ⟨b, 0, none⟩) l.length c] w1 fun e w' =>
      ∃ ad, e = .returned (.iface 210 (.pointer (some ad))) ∧ Below w1.heap.size w1 w') := fun g b c x0 x1 w1 hb hg hk hr hlc hbs => by
    rcases hc with h | ⟨p, q, u, v, r, k, h, huv, hk1, h7, h3, hs | ⟨hs, he⟩⟩
    · exact (srtp_no1 g b c l h ad0 w1 (keep_of_below hb _ _ hg0)).mono (fun e w' h => ⟨_, h⟩)
    · exact (srtp_no2 g b c l p q u v r h k huv hk1 _ rfl h7 h3 hs x0 x1 ad2 w1 hk hr hlc (keep_of_below hb _ _ hg2)).mono (fun e w' h => ⟨_, h⟩)
    · exact (srtp_no3 g b c l p q u v r h k huv hk1 _ rfl h7 h3 _ rfl hs _ rfl _ rfl he x0 x1 ad2 w1 hk hr hlc (keep_of_below hb _ _ hg2)).mono (fun e w' h => ⟨_, h⟩)
  have HLM : Hid (l.length ≤ maxLen) := Lib.hid (by simp only [maxLen]; omega)
  clear hc hm hg0 hg2 hwg
  go_enter Tryd.func20, Tryd.ntmps20
  go_wp2_with fail
  refine upon_conv_sb 9 54 5 Tryd.underlying9 Tryd.underlying54 Tryd.underlying5 l HLM.out ?_
  intro c w1 hown hb hlt
  have hk := ((Blk.new _ 79 #[.slice none 0 0, .slice none 0 0])).keep hb
  have hM := ((Blk.new w 35 _).alloc _).keep hb
  have hr := hown.rd
  have hb1 : Below w.heap.size w w1 := below_two (by (repeat (first | assumption | exact Below.refl _ _ | refine Below.drew ?_ | refine Below.setCell ?_ (by first | omega | (simp; done) | (simp; omega)) _ | refine Below.alloc ?_ (by first | omega | (simp; done) | (simp; omega)) _))) hb
  have hlc := hown.2.1
  simp only [World.size_alloc] at hk hM hr hlt
  clear hown hb
  go_wp2_with fail
  refine (HC.out (w.heap.size + 1) _ c _ _ w1 hb1 (by omega) hk hr hlc hlt).mono ?_
  rintro e w2 ⟨ad, rfl, hb2⟩
  have hM2 := hM.keep hb2
  have hb4 := below_two hb1 hb2
  clear hk hr hM hb1 hb2 HC
  go_wp2_with (with_reducible refine Held.store 35 ?_)
  refine held_store_row (cells := zeroExt) hM2 extInfo rfl rfl rfl (by simp [zeroExt, Value.oneCell']) fun w5 hk5 hg5 _ => ?_
  go_wp2_with fail
  exact bodyPost_cell2 rfl rfl rfl hk5 Tryd.underlying35 extInfo ⟨rfl, hb4.grown hg5 hb4.size (fun k hk' => by simp at hk'; omega)⟩
end Go.Proofs.YtkjpkenhpmjikaaDoor
