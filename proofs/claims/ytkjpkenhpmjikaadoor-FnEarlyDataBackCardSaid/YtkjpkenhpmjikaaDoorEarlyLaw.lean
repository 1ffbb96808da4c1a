/- Walks: the law of early data's extension. -/
import Derived.Test.YtkjpkenhpmjikaaDoorEarly
import Derived.Test.YtkjpkenhpmjikaaDoorExt
import Derived.Test.YtkjpkenhpmjikaaDoorSame
namespace Go.Proofs.YtkjpkenhpmjikaaDoor
open Go.RowKit Go.Cv
set_option maxRecDepth 100000
set_option linter.unusedVariables false
def earlyMsg (N : Int) (h : Bool) : Array Value := #[.int .u16 42, .string (S []), .slice none 0 0, .slice none 0 0, .slice none 0 0, .bool false, .int .u32 N, .bool h, .slice none 0 0, .slice none 0 0, .slice none 0 0, .slice none 0 0, .slice none 0 0]
theorem dataEarly_none (g : Nat) (w : World) (hk : Blk w g 88 #[.pointer none]) :
    Calls Tryd.prog 48 #[.pointer (some ⟨g, 0, none⟩)] w fun e w' => e = .returned (.agg (earlyMsg 0 false)) ∧ Below w.heap.size w w' := by
  have hgs := hk.lt
  go_enter Tryd.func48, Tryd.ntmps48
  go_wp2_with (with_reducible refine Held.store 35 ?_)
  refine held_store_at (g := w.heap.size + 1) (by simp) (cells := earlyMsg 0 false) extInfo rfl rfl rfl (by simp [earlyMsg, Value.oneCell']) fun w1 hm hb' hsz => ?_
  have hb := below_two (below_alloc w _) hb'
  have hM := (Blk.new w 35 _).keep hb'
  have q0 := (hk.keep hb).cell 0
  simp at q0
  have HM := Lib.hid hm
  have HM0 := Lib.hid hM
  clear hk hm hM
  go_wp2_with (with_reducible refine Held.load 35 ?_)
  refine held_load_row (cs := earlyMsg 0 false) HM.out Tryd.underlying35 extInfo rfl ?_
  go_wp2_with (with_reducible refine Held.store 35 ?_)
  refine held_store_row (cells := earlyMsg 0 false) HM0.out extInfo rfl rfl rfl (by simp [earlyMsg, Value.oneCell']) fun w3 hk3 hg3 _ => ?_
  go_wp2_with fail
  exact bodyPost_cell rfl rfl rfl hk3 Tryd.underlying35 extInfo ⟨rfl, hb.grown hg3 hb.size (fun k hk' => by simp at hk'; omega)⟩
theorem dataEarly_some (g a : Nat) (N : Int) (w : World) (hk : Blk w g 88 #[.pointer (some ⟨a, 0, none⟩)]) (ha : w.cell? ⟨a, 0, none⟩ = some (.int .u32 N)) :
    Calls Tryd.prog 48 #[.pointer (some ⟨g, 0, none⟩)] w fun e w' => e = .returned (.agg (earlyMsg N true)) ∧ Below w.heap.size w w' := by
  have hgs := hk.lt
  go_enter Tryd.func48, Tryd.ntmps48
  go_wp2_with (with_reducible refine Held.store 35 ?_)
  refine held_store_at (g := w.heap.size + 1) (by simp) (cells := earlyMsg 0 false) extInfo rfl rfl rfl (by simp [earlyMsg, Value.oneCell']) fun w1 hm hb' hsz => ?_
  have hb := below_two (below_alloc w _) hb'
  have hM := (Blk.new w 35 _).keep hb'
  have q0 := (hk.keep hb).cell 0
  simp at q0
  have m6 := hm.cell 6
  have m7 := hm.cell 7
  have f6 := hm.frozen 6
  have f7 := hm.frozen 7
  simp [earlyMsg] at m6 m7
  have HB : Hid (∀ w', Below w.heap.size w1 w' → w'.cell? ⟨g, 0, none⟩ = some (.pointer (some ⟨a, 0, none⟩)) ∧ w'.cell? ⟨a, 0, none⟩ = some (.int .u32 N)) := fun w' h' => by
    have hb2 := hb.trans h'
    have k0 := (hk.keep hb2).cell 0
    simp at k0
    exact ⟨k0, keep_of_below hb2 _ _ ha⟩
  have HM := Lib.hid hm
  have HM0 := Lib.hid hM
  clear hk hm hM ha
  go_wp2_with fail
  go_region_held3 (fun w' => w'.cell? ⟨g, 0, none⟩ = some (.pointer (some ⟨a, 0, none⟩)) ∧ w'.cell? ⟨a, 0, none⟩ = some (.int .u32 N)) (exact HB.out _ (by (repeat (first | assumption | exact Below.refl _ _ | refine Below.drew ?_ | refine Below.setCell ?_ (by first | omega | (simp; done) | (simp; omega)) _ | refine Below.alloc ?_ (by first | omega | (simp; done) | (simp; omega)) _)))) (fail)
  have hK := (HM.out.set_ 7 (.bool true)).set_ 6 (.int .u32 N)
  have hb2 : Below w.heap.size w ((w1.setCell ⟨w.heap.size + 1, 7, none⟩ (.bool true)).setCell ⟨w.heap.size + 1, 6, none⟩ (.int .u32 N)).drew := by (repeat (first | assumption | exact Below.refl _ _ | refine Below.drew ?_ | refine Below.setCell ?_ (by first | omega | (simp; done) | (simp; omega)) _ | refine Below.alloc ?_ (by first | omega | (simp; done) | (simp; omega)) _))
  have hb3 : Below (w.heap.size + 1) w1 ((w1.setCell ⟨w.heap.size + 1, 7, none⟩ (.bool true)).setCell ⟨w.heap.size + 1, 6, none⟩ (.int .u32 N)).drew := by (repeat (first | assumption | exact Below.refl _ _ | refine Below.drew ?_ | refine Below.setCell ?_ (by first | omega | (simp; done) | (simp; omega)) _ | refine Below.alloc ?_ (by first | omega | (simp; done) | (simp; omega)) _))
  have hM2 := HM0.out.below hb3 (by omega)
  have hK' := hK.drew
  clear hK m6 m7 f6 f7 HB
  go_wp2_with (with_reducible refine Held.load 35 ?_)
  refine held_load_row (cs := earlyMsg N true) hK' Tryd.underlying35 extInfo rfl ?_
  go_wp2_with (with_reducible refine Held.store 35 ?_)
  refine held_store_row (cells := earlyMsg N true) hM2 extInfo rfl rfl rfl (by simp [earlyMsg, Value.oneCell']) fun w3 hk3 hg3 _ => ?_
  go_wp2_with fail
  exact bodyPost_cell rfl rfl rfl hk3 Tryd.underlying35 extInfo ⟨rfl, hb2.grown hg3 hb2.size (fun k hk' => by simp at hk'; omega)⟩
theorem earlyRead_ok (l : List UInt8) (N : Int) (h : Bool) (hlm : l.length ≤ 8)
    (HU : Hid (∀ (g b c : Nat) (w : World), Blk w g 88 #[.pointer none] → Rd w (some ⟨b, 0, none⟩) (vs l) → l.length ≤ c → b < w.heap.size → g ≠ b →
      Calls Tryd.prog 47 #[.pointer (some ⟨g, 0, none⟩), .slice (some ⟨b, 0, none⟩) l.length c] w fun e w' => e = .returned .nilIface ∧ w.grownBy w' (some g) ∧
        Calls Tryd.prog 48 #[.pointer (some ⟨g, 0, none⟩)] w' fun e w'' => e = .returned (.agg (earlyMsg N h)) ∧ Below w'.heap.size w' w'')) (w : World) :
    Calls Tryd.prog 22 #[.string (S l)] w fun e w' => e = .returned (.tuple #[.agg (earlyMsg N h), .bool true]) ∧ Below w.heap.size w w' := by
  have HLM : Hid (l.length ≤ maxLen) := Lib.hid (by simp only [maxLen]; omega)
  clear hlm
  go_enter Tryd.func22, Tryd.ntmps22
  go_wp2_with fail
  refine upon_conv_sb 9 54 5 Tryd.underlying9 Tryd.underlying54 Tryd.underlying5 l HLM.out ?_
  intro c w1 hown hb hlt
  have hk := ((Blk.new _ 88 #[.pointer none])).keep hb
  have hM := ((Blk.new w 35 _).alloc _).keep hb
  have hr := hown.rd
  have hb1 : Below w.heap.size w w1 := below_two (by (repeat (first | assumption | exact Below.refl _ _ | refine Below.drew ?_ | refine Below.setCell ?_ (by first | omega | (simp; done) | (simp; omega)) _ | refine Below.alloc ?_ (by first | omega | (simp; done) | (simp; omega)) _))) hb
  have hlc := hown.2.1
  simp only [World.size_alloc] at hk hM hr hlt
  clear hown hb
  go_wp2_with fail
  refine (HU.out (w.heap.size + 1) _ c w1 hk hr hlc hlt (by omega)).mono ?_
  rintro e w2 ⟨rfl, hg2, HD⟩
  have hM2 := hM.grown hg2 (by simp)
  have hb2 := hb1.grown hg2 hb1.size (fun k hk => by simp at hk; omega)
  have HD := Lib.hid HD
  clear hk hr hM hb1 hg2 HU
  go_wp2_with fail
  refine HD.out.mono ?_
  rintro e w3 ⟨rfl, hb3⟩
  have hM3 := hM2.keep hb3
  have hb4 := below_two hb2 hb3
  clear hM2 hb2 hb3 HD
  go_wp2_with (with_reducible refine Held.store 35 ?_)
  refine held_store_row (cells := earlyMsg N h) hM3 extInfo rfl rfl rfl (by simp [earlyMsg, Value.oneCell']) fun w5 hk5 hg5 _ => ?_
  go_wp2_with fail
  exact bodyPost_cell2 rfl rfl rfl hk5 Tryd.underlying35 extInfo ⟨rfl, hb4.grown hg5 hb4.size (fun k hk' => by simp at hk'; omega)⟩
theorem earlyFn_false (x : Int) (w : World) : Calls Tryd.prog 23 #[.int .u32 x, .bool false] w fun e w' => e = .returned (.string (S [])) ∧ Below w.heap.size w w' := by
  go_enter Tryd.func23, Tryd.ntmps23
  go_wp2_with fail
  go_ret
  exact ⟨rfl, Below.refl _ _⟩
theorem earlyFn_true (n : Nat) (hn : (n : Int) < 4294967296) (w : World) : Calls Tryd.prog 23 #[.int .u32 n, .bool true] w fun e w' => e = .returned (.string (S (be 4 n))) ∧ Below w.heap.size w w' := by
  go_enter Tryd.func23, Tryd.ntmps23
  go_wp2_with fail
  refine (big_any 4 (by omega) n w).mono ?_
  rintro e w1 ⟨rfl, hb1⟩
  go_wp2_with fail
  go_ret
  exact ⟨rfl, hb1⟩
theorem earlylaw_skip (x : Int) (hx : (x == 0) = false) (w : World) :
    Calls Tryd.prog 6 #[.int .u32 x, .bool false] w fun e w' => e = .returned (.bool true) ∧ Below w.heap.size w w' := by
  go_enter Tryd.func6, Tryd.ntmps6
  go_wp2_with fail
  go_ret
  exact ⟨rfl, Below.refl _ _⟩
theorem be4_parts (n : Nat) (h : n < 4294967296) : ∃ p q u v : UInt8, be 4 n = [p, q, u, v] ∧ p.toNat * 16777216 + q.toNat * 65536 + u.toNat * 256 + v.toNat = n :=
  ⟨UInt8.ofNat (n / 16777216), UInt8.ofNat (n / 65536), UInt8.ofNat (n / 256), UInt8.ofNat n, by simp [be], by simp; omega⟩
set_option maxHeartbeats 1000000 in
theorem earlylaw_goF (k m : List UInt8) (HE : Hid (∀ w, Calls Tryd.prog 23 #[.int .u32 0, .bool false] w fun e w' => e = .returned (.string (S k)) ∧ Below w.heap.size w w'))
    (hk4 : k.length ≤ 4) (hm : m = be 2 42 ++ (be 2 k.length ++ k))
    (HO : Hid (∀ w, Calls Tryd.prog 22 #[.string (S m)] w fun e w' => e = .returned (.tuple #[.agg (earlyMsg 0 false), .bool true]) ∧ Below w.heap.size w w')) (w : World) :
    Calls Tryd.prog 6 #[.int .u32 0, .bool false] w fun e w' => e = .returned (.bool true) ∧ Below w.heap.size w w' := by
  have HF := Lib.hid (fun w => framedExt_any 42 (by omega) k (by omega) w)
  rw [← hm] at HF
  clear hm hk4
  have hem : ((S []).toList == (S []).toList) = true := by simp
  go_enter Tryd.func6, Tryd.ntmps6
  go_wp2_with fail
  refine (HE.out w).mono ?_
  rintro e w1 ⟨rfl, hb1⟩
  go_wp2_with fail
  refine (HF.out w1).mono ?_
  rintro e w2 ⟨rfl, hb2⟩
  go_wp2_with fail
  refine (HO.out w2).mono ?_
  rintro e w3 ⟨rfl, hb3⟩
  have hb4 := below_two (below_two hb1 hb2) hb3
  clear HO HE HF
  go_wp2_with (with_reducible refine Held.store 35 ?_)
  refine held_store_new (cells := earlyMsg 0 false) extInfo rfl rfl rfl (by simp [earlyMsg, Value.oneCell']) fun w5 hk hb5 _ => ?_
  go_wp2_with (with_reducible refine Held.loadg 35 ?_)
  refine held_loadg_row hk Tryd.underlying35 extInfo rfl rfl ?_
  go_wp2_with fail
  refine (sameExt0 w5 _ _ 42 [] none none 0 0 none none 0 0 none none 0 0 false 0 false none none 0 0 none none 0 0 none none 0 0 none none 0 0 none none 0 0 rfl rfl rfl rfl rfl rfl rfl rfl rfl rfl rfl rfl rfl rfl rfl rfl rfl rfl rfl rfl rfl rfl rfl rfl rfl rfl).mono ?_
  rintro e w6 ⟨rfl, rfl⟩
  go_wp2_with fail
  go_ret
  exact ⟨rfl, below_two (below_two hb4 hb5) (((Below.refl _ w5).alloc (Nat.le_refl _) _).alloc (by simp) _)⟩
set_option maxHeartbeats 1000000 in
theorem earlylaw_goT (n : Int) (k m : List UInt8) (HE : Hid (∀ w, Calls Tryd.prog 23 #[.int .u32 n, .bool true] w fun e w' => e = .returned (.string (S k)) ∧ Below w.heap.size w w'))
    (hk4 : k.length ≤ 4) (hm : m = be 2 42 ++ (be 2 k.length ++ k))
    (HO : Hid (∀ w, Calls Tryd.prog 22 #[.string (S m)] w fun e w' => e = .returned (.tuple #[.agg (earlyMsg n true), .bool true]) ∧ Below w.heap.size w w')) (w : World) :
    Calls Tryd.prog 6 #[.int .u32 n, .bool true] w fun e w' => e = .returned (.bool true) ∧ Below w.heap.size w w' := by
  have HF := Lib.hid (fun w => framedExt_any 42 (by omega) k (by omega) w)
  rw [← hm] at HF
  clear hm hk4
  have hem : ((S []).toList == (S []).toList) = true := by simp
  go_enter Tryd.func6, Tryd.ntmps6
  go_wp2_with fail
  refine (HE.out w).mono ?_
  rintro e w1 ⟨rfl, hb1⟩
  go_wp2_with fail
  refine (HF.out w1).mono ?_
  rintro e w2 ⟨rfl, hb2⟩
  go_wp2_with fail
  refine (HO.out w2).mono ?_
  rintro e w3 ⟨rfl, hb3⟩
  have hb4 := below_two (below_two hb1 hb2) hb3
  clear HO HE HF
  go_wp2_with (with_reducible refine Held.store 35 ?_)
  refine held_store_new (cells := earlyMsg n true) extInfo rfl rfl rfl (by simp [earlyMsg, Value.oneCell']) fun w5 hk hb5 _ => ?_
  go_wp2_with (with_reducible refine Held.loadg 35 ?_)
  refine held_loadg_row hk Tryd.underlying35 extInfo rfl rfl ?_
  go_wp2_with fail
  refine (sameExt0 w5 _ _ 42 [] none none 0 0 none none 0 0 none none 0 0 false n true none none 0 0 none none 0 0 none none 0 0 none none 0 0 none none 0 0 rfl rfl rfl rfl rfl rfl rfl rfl rfl rfl rfl rfl rfl rfl rfl rfl rfl rfl rfl rfl rfl rfl rfl rfl rfl rfl).mono ?_
  rintro e w6 ⟨rfl, rfl⟩
  go_wp2_with fail
  go_ret
  exact ⟨rfl, below_two (below_two hb4 hb5) (((Below.refl _ w5).alloc (Nat.le_refl _) _).alloc (by simp) _)⟩
theorem earlylaw_row (x : Int) (hx : (Lit.int .u32 x).wf = true) (h : Bool) (w : World) {p q r : Prop} (ad0 : Addr) (g0 : p) (ad1 : Addr) (g1 : q) (ad2 : Addr) (g2 : r) :
    Calls Tryd.prog 6 #[.int .u32 x, .bool h] w fun e w' => e = .returned (.bool true) ∧ Below w.heap.size w w' := by
  obtain ⟨n, rfl, hn⟩ := nat_u32 hx
  cases h with
  | false =>
    by_cases h0 : n = 0
    · subst h0
      refine earlylaw_goF [] _ (Lib.hid (fun w => earlyFn_false _ w)) (by simp) rfl (Lib.hid (fun w => ?_)) w
      refine earlyRead_ok _ _ false (by simp [be]) (Lib.hid (fun g b c w hk hr hlc hbs hgb => ?_)) w
      exact (early_none g b c _ 0 0 (by simp [be]) (by simp) w hk hr hlc hbs hgb).mono (by rintro e w' ⟨rfl, hk', hg'⟩; exact ⟨rfl, hg', dataEarly_none g w' hk'⟩)
    · exact earlylaw_skip _ (by simp; omega) w
  | true =>
    obtain ⟨p', q', u, v, e4, hN⟩ := be4_parts n (by omega)
    refine earlylaw_goT _ (be 4 n) _ (Lib.hid (fun w => earlyFn_true n hn w)) (by rw [be_length]; omega) rfl (Lib.hid (fun w => ?_)) w
    refine earlyRead_ok _ _ true (by simp [be]) (Lib.hid (fun g b c w hk hr hlc hbs hgb => ?_)) w
    exact (early_some g b c _ 0 4 p' q' u v n (by rw [e4]; simp [be]) (by simp) (by rw [hN]) w hk hr hlc hbs hgb).mono (by rintro e w' ⟨rfl, a, hk', ha', hg'⟩; exact ⟨rfl, hg', dataEarly_some g a _ w' hk' ha'⟩)
end Go.Proofs.YtkjpkenhpmjikaaDoor
