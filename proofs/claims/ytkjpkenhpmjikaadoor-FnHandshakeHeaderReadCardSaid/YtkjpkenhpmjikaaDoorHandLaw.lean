/- Walks: the law of a handshake header. -/
import Derived.Test.YtkjpkenhpmjikaaDoorHandW
namespace Go.Proofs.YtkjpkenhpmjikaaDoor
open Go.RowKit Go.Cv
set_option maxRecDepth 100000
set_option linter.unusedVariables false
theorem hhInfo : (Tryd.prog.info? 63).map (·.size) = some 5 := by kernel_rfl
theorem hdInfo : (Tryd.prog.info? 150).map (·.size) = some 5 := by kernel_rfl
def hh (a : Int) (n1 n2 n3 n4 : Int) : Array Value := #[.int .u8 a, .int .u32 n1, .int .u16 n2, .int .u32 n3, .int .u32 n4]
theorem hand_no (g b n c : Nat) (hn : decide ((n : Int) < 12) = true) (ad : Addr) (w : World) (hg : w.cell? ⟨12, 0, none⟩ = some (.iface 210 (.pointer (some ad)))) :
    Calls Tryd.prog 77 #[.pointer (some ⟨g, 0, none⟩), .slice (some ⟨b, 0, none⟩) n c] w fun e w' =>
      e = .returned (.iface 210 (.pointer (some ad))) ∧ w = w' := by
  go_enter Tryd.func77, Tryd.ntmps77
  go_wp2_with fail
  go_ret
  exact ⟨rfl, rfl⟩
theorem handData (a n1 n2 n3 n4 : Int) (w : World) :
    Calls Tryd.prog 78 #[.agg (hh a n1 n2 n3 n4)] w fun e w' => e = .returned (.agg (hh a n1 n2 n3 n4)) ∧ Below w.heap.size w w' := by
  unfold hh
  go_enter Tryd.func78, Tryd.ntmps78
  go_wp2_with (with_reducible refine Held.store 63 ?_)
  refine held_store_at (g := w.heap.size + 1) (by simp) (cells := hh a n1 n2 n3 n4) hhInfo rfl rfl rfl (by simp [hh, Value.oneCell']) fun w1 hm hb' hsz => ?_
  go_wp2_with fail
  exact bodyPost_cell rfl rfl rfl hm Tryd.underlying63 hhInfo ⟨rfl, below_two (below_alloc w _) hb'⟩
theorem handHdr (a n1 n2 n3 n4 : Int) (w : World) :
    Calls Tryd.prog 79 #[.agg (hh a n1 n2 n3 n4)] w fun e w' => e = .returned (.agg (hh a n1 n2 n3 n4)) ∧ Below w.heap.size w w' := by
  unfold hh
  go_enter Tryd.func79, Tryd.ntmps79
  go_wp2_with (with_reducible refine Held.store 150 ?_)
  refine held_store_at (g := w.heap.size + 1) (by simp) (cells := hh a n1 n2 n3 n4) hdInfo rfl rfl rfl (by simp [hh, Value.oneCell']) fun w1 hm hb' hsz => ?_
  go_wp2_with fail
  exact bodyPost_cell rfl rfl rfl hm Tryd.underlying150 hdInfo ⟨rfl, below_two (below_alloc w _) hb'⟩
theorem handRead_no (l : List UInt8) (hm : Hid (l.length ≤ maxLen)) (hn : decide ((l.length : Int) < 12) = true) (w : World) (ad : Addr) (hg : w.cell? ⟨12, 0, none⟩ = some (.iface 210 (.pointer (some ad)))) :
    Calls Tryd.prog 39 #[.string (S l)] w fun e w' => e = .returned (.tuple #[.agg (hh 0 0 0 0 0), .bool false]) ∧ Below w.heap.size w w' := by
  have HC := Lib.hid (fun g b c w hg => hand_no g b l.length c hn ad w hg)
  clear hn
  go_enter Tryd.func39, Tryd.ntmps39
  go_wp2_with fail
  refine upon_conv_sb 9 54 5 Tryd.underlying9 Tryd.underlying54 Tryd.underlying5 l hm.out ?_
  intro c w1 hown hb hlt
  have hM := ((Blk.new w 63 _).alloc _).keep hb
  have hb1 : Below w.heap.size w w1 := below_two (by (repeat (first | assumption | exact Below.refl _ _ | refine Below.drew ?_ | refine Below.setCell ?_ (by first | omega | (simp; done) | (simp; omega)) _ | refine Below.alloc ?_ (by first | omega | (simp; done) | (simp; omega)) _))) hb
  have hg1 := keep_of_below hb1 _ _ hg
  simp only [World.size_alloc] at hM hlt
  clear hown hb
  go_wp2_with fail
  refine (HC.out _ _ c w1 hg1).mono ?_
  rintro e w2 ⟨rfl, rfl⟩
  clear HC hg hg1
  go_wp2_with (with_reducible refine Held.store 63 ?_)
  refine held_store_row (cells := hh 0 0 0 0 0) hM hhInfo rfl rfl rfl (by simp [hh, Value.oneCell']) fun w5 hk5 hg5 _ => ?_
  go_wp2_with fail
  exact bodyPost_cell2 rfl rfl rfl hk5 Tryd.underlying63 hhInfo ⟨rfl, hb1.grown hg5 hb1.size (fun k hk' => by simp at hk'; omega)⟩
theorem handRead_ok (b0 b1 b2 b3 b4 b5 b6 b7 b8 b9 b10 b11 : UInt8) (N1 N3 N4 : Int) (N2 : Nat) (hN1 : N1 = ((b1.toNat * 65536 + b2.toNat * 256 + b3.toNat : Nat) : Int)) (hN2 : b4.toNat * 256 + b5.toNat = N2) (hN3 : N3 = ((b6.toNat * 65536 + b7.toNat * 256 + b8.toNat : Nat) : Int)) (hN4 : N4 = ((b9.toNat * 65536 + b10.toNat * 256 + b11.toNat : Nat) : Int))
    (r : List UInt8) (l : List UInt8) (hl : l = b0 :: b1 :: b2 :: b3 :: b4 :: b5 :: b6 :: b7 :: b8 :: b9 :: b10 :: b11 :: r) (hmm : (l.length : Int) ≤ 2147483647) (w : World) :
    Calls Tryd.prog 39 #[.string (S l)] w fun e w' => e = .returned (.tuple #[.agg (hh b0.toNat N1 N2 N3 N4), .bool true]) ∧ Below w.heap.size w w' := by
  have hll : l.length = r.length + 12 := by rw [hl]; simp
  have HLM : Hid (l.length ≤ maxLen) := Lib.hid (by simp only [maxLen]; omega)
  have HC := Lib.hid (fun g b c w hnc x0 x1 x2 x3 x4 hk hr hgb => hand_ok g b l.length c b0 b1 b2 b3 b4 b5 b6 b7 b8 b9 b10 b11 N1 N3 N4 N2 hN1 hN2 hN3 hN4 r l hl rfl (by omega) (by omega) hnc x0 x1 x2 x3 x4 w hk hr hgb)
  clear hl hll hmm hN1 hN2 hN3 hN4
  go_enter Tryd.func39, Tryd.ntmps39
  go_wp2_with fail
  refine upon_conv_sb 9 54 5 Tryd.underlying9 Tryd.underlying54 Tryd.underlying5 l HLM.out ?_
  intro c w1 hown hb hlt
  have hk := ((Blk.new _ 150 #[.int .u8 0, .int .u32 0, .int .u16 0, .int .u32 0, .int .u32 0])).keep hb
  have hM := ((Blk.new w 63 _).alloc _).keep hb
  have hr := hown.rd
  have hb1 : Below w.heap.size w w1 := below_two (by (repeat (first | assumption | exact Below.refl _ _ | refine Below.drew ?_ | refine Below.setCell ?_ (by first | omega | (simp; done) | (simp; omega)) _ | refine Below.alloc ?_ (by first | omega | (simp; done) | (simp; omega)) _))) hb
  have hlc := hown.2.1
  simp only [World.size_alloc] at hk hM hr hlt
  clear hown hb
  go_wp2_with fail
  refine (HC.out (w.heap.size + 1) _ c w1 (by omega) _ _ _ _ _ hk hr (by omega)).mono ?_
  rintro e w2 ⟨rfl, hk2, hg2⟩
  have hM2 := hM.grown hg2 (by simp)
  have hb2 := hb1.grown hg2 hb1.size (fun k hk => by simp at hk; omega)
  clear hk hr hM hb1 hg2 HC
  go_wp2_with (with_reducible refine Held.load 150 ?_)
  refine held_load_row (cs := hh b0.toNat N1 N2 N3 N4) hk2 Tryd.underlying150 hdInfo rfl ?_
  go_wp2_with fail
  refine (handData _ _ _ _ _ w2).mono ?_
  rintro e w3 ⟨rfl, hb3⟩
  have hM3 := hM2.keep hb3
  have hb4 := below_two hb2 hb3
  clear hM2 hk2 hb2 hb3
  go_wp2_with (with_reducible refine Held.store 63 ?_)
  refine held_store_row (cells := hh b0.toNat N1 N2 N3 N4) hM3 hhInfo rfl rfl rfl (by simp [hh, Value.oneCell']) fun w5 hk5 hg5 _ => ?_
  go_wp2_with fail
  exact bodyPost_cell2 rfl rfl rfl hk5 Tryd.underlying63 hhInfo ⟨rfl, hb4.grown hg5 hb4.size (fun k hk' => by simp at hk'; omega)⟩
def wr (a0 n1 n2 n3 n4 : Nat) : List UInt8 := [UInt8.ofNat a0, UInt8.ofNat (n1 / 65536), UInt8.ofNat (n1 / 256), UInt8.ofNat n1, UInt8.ofNat (n2 / 256), UInt8.ofNat n2, UInt8.ofNat (n3 / 65536), UInt8.ofNat (n3 / 256), UInt8.ofNat n3, UInt8.ofNat (n4 / 65536), UInt8.ofNat (n4 / 256), UInt8.ofNat n4]
theorem handWrite_ok (a0 n1 n2 n3 n4 : Nat) (ha : (a0 : Int) < 256) (w : World) :
    Calls Tryd.prog 40 #[.agg (hh a0 n1 n2 n3 n4)] w fun e w' => e = .returned (.tuple #[.string (S (wr a0 n1 n2 n3 n4)), .bool true]) ∧ Below w.heap.size w w' := by
  go_enter Tryd.func40, Tryd.ntmps40
  have hg := heap_alloc_new w (.cells (hh a0 n1 n2 n3 n4) 63)
  go_wp2_with (with_reducible refine Held.load 63 ?_)
  refine held_load_row (cs := hh a0 n1 n2 n3 n4) hg Tryd.underlying63 hhInfo rfl ?_
  clear hg
  go_wp2_with fail
  refine (handHdr _ _ _ _ _ _).mono ?_
  rintro e w1 ⟨rfl, hb1⟩
  have hb1' := below_two (below_alloc w _) hb1
  clear hb1
  go_wp2_with (with_reducible refine Held.store 150 ?_)
  refine held_store_new (cells := hh a0 n1 n2 n3 n4) hdInfo rfl rfl rfl (by simp [hh, Value.oneCell']) fun w2 hk2 hb2 _ => ?_
  go_wp2_with fail
  refine (handMarshal_ok _ a0 n1 n2 n3 n4 ha w2 hk2).mono ?_
  rintro e w3 ⟨A', c', rfl, hb3, hr3⟩
  have hb4 := below_two (below_two hb1' hb2) hb3
  clear hk2 hb1' hb2 hb3
  have hr3' : Rd w3 A' (vs (wr a0 n1 n2 n3 n4)) := by
    have ha' : (a0 : Int) % 256 = a0 := by omega
    simpa [vs, wr, ha'] using hr3
  go_wp2_with fail
  refine (text_any A' 12 c' (wr a0 n1 n2 n3 n4) rfl w3 hr3').mono ?_
  rintro e w4 ⟨rfl, rfl⟩
  go_wp2_with fail
  go_ret2
  exact ⟨rfl, hb4⟩
theorem handlaw_big (l : List UInt8) (h1 : decide ((2147483647 : Int) < l.length) = true) (w : World) :
    Calls Tryd.prog 14 #[.string (S l)] w fun e w' => e = .returned (.bool true) ∧ Below w.heap.size w w' := by
  have h3 : (S l).size = l.length := S_size l
  go_enter Tryd.func14, Tryd.ntmps14
  go_wp2_with fail
  go_ret
  exact ⟨rfl, Below.refl _ _⟩
theorem handlaw_short (l : List UInt8) (h1 : decide ((2147483647 : Int) < l.length) = false) (h2 : decide ((l.length : Int) < 12) = true) (w : World) (ad : Addr) (hg : w.cell? ⟨12, 0, none⟩ = some (.iface 210 (.pointer (some ad)))) :
    Calls Tryd.prog 14 #[.string (S l)] w fun e w' => e = .returned (.bool true) ∧ Below w.heap.size w w' := by
  have h3 : (S l).size = l.length := S_size l
  have HR := Lib.hid (fun w hg => handRead_no l (Lib.hid (by simp at h2; simp only [maxLen]; omega)) h2 w ad hg)
  go_enter Tryd.func14, Tryd.ntmps14
  go_wp2_with fail
  refine (HR.out w hg).mono ?_
  rintro e w1 ⟨rfl, hb1⟩
  go_wp2_with (with_reducible refine Held.store 63 ?_)
  refine held_store_new (cells := hh 0 0 0 0 0) hhInfo rfl rfl rfl (by simp [hh, Value.oneCell']) fun w2 _ hb2 _ => ?_
  go_wp2_with fail
  go_ret
  exact ⟨rfl, below_two hb1 hb2⟩
set_option maxHeartbeats 1000000 in
theorem handlaw_long (l K : List UInt8) (a n1 n2 n3 n4 : Int) (h1 : decide ((2147483647 : Int) < l.length) = false) (h2 : decide ((l.length : Int) < 12) = false) (i12 : (12 : Int) ≤ l.length) (hx : (S l).extract 0 12 = S K)
    (HO : Hid (∀ w, Calls Tryd.prog 39 #[.string (S l)] w fun e w' => e = .returned (.tuple #[.agg (hh a n1 n2 n3 n4), .bool true]) ∧ Below w.heap.size w w'))
    (HW : Hid (∀ w, Calls Tryd.prog 40 #[.agg (hh a n1 n2 n3 n4)] w fun e w' => e = .returned (.tuple #[.string (S K), .bool true]) ∧ Below w.heap.size w w')) (w : World) :
    Calls Tryd.prog 14 #[.string (S l)] w fun e w' => e = .returned (.bool true) ∧ Below w.heap.size w w' := by
  have h3 : (S l).size = l.length := S_size l
  have i12' : 12 ≤ l.length := by omega
  have he : ((S K).toList == (S K).toList) = true := by simp
  go_enter Tryd.func14, Tryd.ntmps14
  go_wp2_with fail
  refine (HO.out w).mono ?_
  rintro e w1 ⟨rfl, hb1⟩
  go_wp2_with (with_reducible refine Held.store 63 ?_)
  refine held_store_new (cells := hh a n1 n2 n3 n4) hhInfo rfl rfl rfl (by simp [hh, Value.oneCell']) fun w2 hk2 hb2 _ => ?_
  have hb3 := below_two hb1 hb2
  go_wp2_with (with_reducible refine Held.load 63 ?_)
  refine held_load_row (cs := hh a n1 n2 n3 n4) hk2 Tryd.underlying63 hhInfo rfl ?_
  go_wp2_with fail
  refine (HW.out w2).mono ?_
  rintro e w3 ⟨rfl, hb4⟩
  go_wp2_with fail
  go_ret
  exact ⟨rfl, below_two hb3 hb4⟩
theorem handlaw_row (l : List UInt8) (w : World) (ad : Addr) (hg : w.cell? ⟨12, 0, none⟩ = some (.iface 210 (.pointer (some ad)))) :
    Calls Tryd.prog 14 #[.string (S l)] w fun e w' => e = .returned (.bool true) ∧ Below w.heap.size w w' := by
  by_cases h1 : (2147483647 : Int) < l.length
  · exact handlaw_big l (by simpa using h1) w
  have h1' : decide ((2147483647 : Int) < l.length) = false := by simpa using h1
  by_cases h2 : (l.length : Int) < 12
  · exact handlaw_short l h1' (by simpa using h2) w ad hg
  · have h2' : decide ((l.length : Int) < 12) = false := by simpa using h2
    match l, h1, h1', h2, h2' with
    | b0 :: b1 :: b2 :: b3 :: b4 :: b5 :: b6 :: b7 :: b8 :: b9 :: b10 :: b11 :: r, h1, h1', h2, h2' =>
      have e0 := b0.toNat_lt
      have e1 := b1.toNat_lt
      have e2 := b2.toNat_lt
      have e3 := b3.toNat_lt
      have e4 := b4.toNat_lt
      have e5 := b5.toNat_lt
      have e6 := b6.toNat_lt
      have e7 := b7.toNat_lt
      have e8 := b8.toNat_lt
      have e9 := b9.toNat_lt
      have e10 := b10.toNat_lt
      have e11 := b11.toNat_lt
      have hK : (S (b0 :: b1 :: b2 :: b3 :: b4 :: b5 :: b6 :: b7 :: b8 :: b9 :: b10 :: b11 :: r)).extract 0 12 = S (wr b0.toNat (b1.toNat * 65536 + b2.toNat * 256 + b3.toNat) (b4.toNat * 256 + b5.toNat) (b6.toNat * 65536 + b7.toNat * 256 + b8.toNat) (b9.toNat * 65536 + b10.toNat * 256 + b11.toNat)) := by
        rw [S_extract]
        congr 1
        show [b0, b1, b2, b3, b4, b5, b6, b7, b8, b9, b10, b11] = _
        have q (x y : UInt8) (h : x.toNat = y.toNat) : x = y := UInt8.toNat_inj.1 h
        simp only [wr, List.cons.injEq, and_true]
        refine ⟨?_, ?_, ?_, ?_, ?_, ?_, ?_, ?_, ?_, ?_, ?_, ?_⟩ <;> refine q _ _ ?_ <;> rw [UInt8.toNat_ofNat'] <;> omega
      refine handlaw_long _ _ b0.toNat ((b1.toNat * 65536 + b2.toNat * 256 + b3.toNat : Nat) : Int) ((b4.toNat * 256 + b5.toNat : Nat) : Int) ((b6.toNat * 65536 + b7.toNat * 256 + b8.toNat : Nat) : Int) ((b9.toNat * 65536 + b10.toNat * 256 + b11.toNat : Nat) : Int) h1' h2' (by omega) hK (Lib.hid (fun w => ?_)) (Lib.hid (fun w => ?_)) w
      · exact handRead_ok b0 b1 b2 b3 b4 b5 b6 b7 b8 b9 b10 b11 _ _ _ _ rfl rfl rfl rfl r _ rfl (by omega) w
      · exact handWrite_ok b0.toNat _ _ _ _ (by omega) w
    | [], _, _, h2, _ => exact absurd h2 (by simp)
    | [_], _, _, h2, _ => exact absurd h2 (by simp)
    | [_, _], _, _, h2, _ => exact absurd h2 (by simp)
    | [_, _, _], _, _, h2, _ => exact absurd h2 (by simp)
    | [_, _, _, _], _, _, h2, _ => exact absurd h2 (by simp)
    | [_, _, _, _, _], _, _, h2, _ => exact absurd h2 (by simp)
    | [_, _, _, _, _, _], _, _, h2, _ => exact absurd h2 (by simp)
    | [_, _, _, _, _, _, _], _, _, h2, _ => exact absurd h2 (by simp)
    | [_, _, _, _, _, _, _, _], _, _, h2, _ => exact absurd h2 (by simp)
    | [_, _, _, _, _, _, _, _, _], _, _, h2, _ => exact absurd h2 (by simp)
    | [_, _, _, _, _, _, _, _, _, _], _, _, h2, _ => exact absurd h2 (by simp)
    | [_, _, _, _, _, _, _, _, _, _, _], _, _, h2, _ => exact absurd h2 (by simp)
end Go.Proofs.YtkjpkenhpmjikaaDoor
