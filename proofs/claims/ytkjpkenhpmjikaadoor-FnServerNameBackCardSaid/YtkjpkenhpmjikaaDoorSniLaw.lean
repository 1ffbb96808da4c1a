/- Walks: the law of a server name's extension. -/
import Derived.Test.YtkjpkenhpmjikaaDoorSni
import Derived.Test.YtkjpkenhpmjikaaDoorSame
namespace Go.Proofs.YtkjpkenhpmjikaaDoor
open Go.RowKit Go.Cv
set_option maxRecDepth 100000
set_option linter.unusedVariables false
theorem dataSni_any (g : Nat) (l : List UInt8) (w : World) (hk : Blk w g 121 #[.string (S l)]) :
    Calls Tryd.prog 66 #[.pointer (some ⟨g, 0, none⟩)] w fun e w' => e = .returned (.agg (extMsg 0 l)) ∧ Below w.heap.size w w' := by
  have hgs := hk.lt
  go_enter Tryd.func66, Tryd.ntmps66
  go_wp2_with (with_reducible refine Held.store 35 ?_)
  refine held_store_at (g := w.heap.size + 1) (by simp) (cells := extMsg 0 []) extInfo rfl rfl rfl (by simp [extMsg, Value.oneCell']) fun w1 hm hb' hsz => ?_
  have hb := below_two (below_alloc w _) hb'
  have hM := (Blk.new w 35 _).keep hb'
  have q0 := (hk.keep hb).cell 0
  have m1 := hm.cell 1
  have f1 := hm.frozen 1
  simp [extMsg] at q0 m1
  have HM := Lib.hid hm
  have HM0 := Lib.hid hM
  clear hk hm hM
  go_wp2_with (with_reducible refine Held.load 35 ?_)
  have hK := HM.out.set_ 1 (.string (S l))
  have hb2 : Below w.heap.size w (w1.setCell ⟨w.heap.size + 1, 1, none⟩ (.string (S l))) := by (repeat (first | assumption | exact Below.refl _ _ | refine Below.drew ?_ | refine Below.setCell ?_ (by first | omega | (simp; done) | (simp; omega)) _ | refine Below.alloc ?_ (by first | omega | (simp; done) | (simp; omega)) _))
  have hb3 : Below (w.heap.size + 1) w1 (w1.setCell ⟨w.heap.size + 1, 1, none⟩ (.string (S l))) := by (repeat (first | assumption | exact Below.refl _ _ | refine Below.drew ?_ | refine Below.setCell ?_ (by first | omega | (simp; done) | (simp; omega)) _ | refine Below.alloc ?_ (by first | omega | (simp; done) | (simp; omega)) _))
  have hM2 := HM0.out.below hb3 (by omega)
  refine held_load_row (cs := extMsg 0 l) hK Tryd.underlying35 extInfo rfl ?_
  go_wp2_with (with_reducible refine Held.store 35 ?_)
  refine held_store_row (cells := extMsg 0 l) hM2 extInfo rfl rfl rfl (by simp [extMsg, Value.oneCell']) fun w3 hk3 hg3 _ => ?_
  go_wp2_with fail
  exact bodyPost_cell rfl rfl rfl hk3 Tryd.underlying35 extInfo ⟨rfl, hb2.grown hg3 hb2.size (fun k hk' => by simp at hk'; omega)⟩
theorem sniRead_ok (l m : List UInt8) (ch p q u v x y : UInt8) (hl : l = 0 :: 0 :: p :: q :: u :: v :: 0 :: x :: y :: m) (hpq : p.toNat * 256 + q.toNat = m.length + 5) (huv : u.toNat * 256 + v.toNat = m.length + 3) (hxy : x.toNat * 256 + y.toNat = m.length)
    (hm0 : 0 < m.length) (hml : (m.length : Int) < 60000) (hc : m.drop (m.length - 1) = [ch]) (h46 : ch ≠ 46) (w : World) :
    Calls Tryd.prog 27 #[.string (S l)] w fun e w' => e = .returned (.tuple #[.agg (extMsg 0 m), .bool true]) ∧ Below w.heap.size w w' := by
  have hll : l.length = m.length + 9 := by rw [hl]; simp
  have HC := Lib.hid (fun g b c w hk hr hlc hbs hgb => sni_ok g b c l m ch p q u v x y hl hpq huv hxy hm0 hml hc h46 w hk hr hlc hbs hgb)
  have HLM : Hid (l.length ≤ maxLen) := Lib.hid (by simp only [maxLen]; omega)
  clear hl hpq huv hxy hll hml hc h46 hm0
  go_enter Tryd.func27, Tryd.ntmps27
  go_wp2_with fail
  refine upon_conv_sb 9 54 5 Tryd.underlying9 Tryd.underlying54 Tryd.underlying5 l HLM.out ?_
  intro c w1 hown hb hlt
  have hk := ((Blk.new _ 121 #[.string (S [])])).keep hb
  have hM := ((Blk.new w 35 _).alloc _).keep hb
  have hr := hown.rd
  have hb1 : Below w.heap.size w w1 := below_two (by (repeat (first | assumption | exact Below.refl _ _ | refine Below.drew ?_ | refine Below.setCell ?_ (by first | omega | (simp; done) | (simp; omega)) _ | refine Below.alloc ?_ (by first | omega | (simp; done) | (simp; omega)) _))) hb
  have hlc := hown.2.1
  simp only [World.size_alloc] at hk hM hr hlt
  clear hown hb
  go_wp2_with fail
  refine (HC.out (w.heap.size + 1) _ c w1 hk hr hlc hlt (by omega)).mono ?_
  rintro e w2 ⟨rfl, hk2, hg2⟩
  have hM2 := hM.grown hg2 (by simp)
  have hb2 := hb1.grown hg2 hb1.size (fun k hk => by simp at hk; omega)
  clear hk hr hM hb1 hg2 HC
  go_wp2_with fail
  refine (dataSni_any (w.heap.size + 1) m w2 hk2).mono ?_
  rintro e w3 ⟨rfl, hb3⟩
  have hM3 := hM2.keep hb3
  have hb4 := below_two hb2 hb3
  clear hM2 hk2 hb2 hb3
  go_wp2_with (with_reducible refine Held.store 35 ?_)
  refine held_store_row (cells := extMsg 0 m) hM3 extInfo rfl rfl rfl (by simp [extMsg, Value.oneCell']) fun w5 hk5 hg5 _ => ?_
  go_wp2_with fail
  exact bodyPost_cell2 rfl rfl rfl hk5 Tryd.underlying35 extInfo ⟨rfl, hb4.grown hg5 hb4.size (fun k hk' => by simp at hk'; omega)⟩
theorem sni_big (l : List UInt8) (h1 : decide ((2147483647 : Int) < l.length) = true) (w : World) :
    Calls Tryd.prog 9 #[.string (S l)] w fun e w' => e = .returned (.bool true) ∧ Below w.heap.size w w' := by
  have h3 : (S l).size = l.length := S_size l
  go_enter Tryd.func9, Tryd.ntmps9
  go_wp2_with fail
  go_ret
  exact ⟨rfl, Below.refl _ _⟩
theorem sni_none  (w : World) :
    Calls Tryd.prog 9 #[.string (S [])] w fun e w' => e = .returned (.bool true) ∧ Below w.heap.size w w' := by
  have h3 : (S []).size = 0 := S_size []
  go_enter Tryd.func9, Tryd.ntmps9
  go_wp2_with fail
  go_ret
  exact ⟨rfl, Below.refl _ _⟩
theorem sni_long (l : List UInt8) (h1 : decide ((2147483647 : Int) < l.length) = false) (h2 : 0 < l.length) (h4 : decide ((l.length : Int) < 60000) = false) (w : World) :
    Calls Tryd.prog 9 #[.string (S l)] w fun e w' => e = .returned (.bool true) ∧ Below w.heap.size w w' := by
  have h3 : (S l).size = l.length := S_size l
  go_enter Tryd.func9, Tryd.ntmps9
  go_wp2_with fail
  go_ret
  exact ⟨rfl, Below.refl _ _⟩
theorem sni_dot (l : List UInt8) (ch : UInt8) (h1 : decide ((2147483647 : Int) < l.length) = false) (h2 : 0 < l.length) (h4 : decide ((l.length : Int) < 60000) = true) (hch : l.getD (l.length - 1) 0 = ch) (h5 : ((ch.toNat : Int) != 46) = false) (w : World) :
    Calls Tryd.prog 9 #[.string (S l)] w fun e w' => e = .returned (.bool true) ∧ Below w.heap.size w w' := by
  have h3 : (S l).size = l.length := S_size l
  have i4 : (l.length : Int) < 60000 := by simpa using h4
  have hi := fun w => run_index_S (P := Tryd.prog) w 9 Tryd.underlying9 l .i64 ((l.length : Int) - 1) (l.length - 1) (by omega) (by omega)
  rw [hch] at hi
  have hw : wrap64 ((l.length : Int) - 1) = (l.length : Int) - 1 := by unfold wrap64; omega
  clear i4 hch
  go_enter Tryd.func9, Tryd.ntmps9
  go_wp2_with fail
  go_ret
  exact ⟨rfl, Below.refl _ _⟩
set_option maxHeartbeats 1000000 in
theorem sni_go (l k1 k2 k3 m : List UInt8) (ch : UInt8) (h1 : decide ((2147483647 : Int) < l.length) = false) (h2 : 0 < l.length) (h4 : decide ((l.length : Int) < 60000) = true) (hch : l.getD (l.length - 1) 0 = ch) (h5 : ((ch.toNat : Int) != 46) = true) (hk1 : k1 = be 2 l.length ++ l) (hk2 : k2 = 0 :: k1) (hk3 : k3 = be 2 k2.length ++ k2) (hm : m = be 2 0 ++ (be 2 k3.length ++ k3)) (w : World) :
    Calls Tryd.prog 9 #[.string (S l)] w fun e w' => e = .returned (.bool true) ∧ Below w.heap.size w w' := by
  have h3 : (S l).size = l.length := S_size l
  have i4 : (l.length : Int) < 60000 := by simpa using h4
  have hi := fun w => run_index_S (P := Tryd.prog) w 9 Tryd.underlying9 l .i64 ((l.length : Int) - 1) (l.length - 1) (by omega) (by omega)
  rw [hch] at hi
  have hw : wrap64 ((l.length : Int) - 1) = (l.length : Int) - 1 := by unfold wrap64; omega
  have l1 : k1.length = l.length + 2 := by rw [hk1, List.length_append, be_length]; omega
  have l2 : k2.length = l.length + 3 := by rw [hk2, List.length_cons, l1]
  have l3 : k3.length = l.length + 5 := by rw [hk3, List.length_append, be_length, l2]; omega
  have HV := Lib.hid (fun w => vec_any 2 (by omega) l (by omega) w)
  rw [← hk1] at HV
  have HV2 := Lib.hid (fun w => vec_any 2 (by omega) k2 (by omega) w)
  rw [← hk3] at HV2
  have HF := Lib.hid (fun w => framedExt_any 0 (by omega) k3 (by omega) w)
  rw [← hm] at HF
  have HA : Hid (∀ w : World, (Op.stringOp .add (.mk #[0]) (S k1)).run Tryd.prog w = .ok (.string (S k2)) w) := fun w => run_add_eq [0] k1 k2 (by rw [hk2]; rfl) (by omega) w
  obtain ⟨p, q, e3, hpq⟩ := be2_parts k3.length (by omega)
  obtain ⟨u, v, e2, huv⟩ := be2_parts k2.length (by omega)
  obtain ⟨x, y, e1, hxy⟩ := be2_parts l.length (by omega)
  have hm' : m = 0 :: 0 :: p :: q :: u :: v :: 0 :: x :: y :: l := by rw [hm, e3, hk3, e2, hk2, hk1, e1]; rfl
  have hc : l.drop (l.length - 1) = [ch] := by
    obtain ⟨c', hc'⟩ : ∃ c', l.drop (l.length - 1) = [c'] := List.length_eq_one_iff.1 (by rw [List.length_drop]; omega)
    have h0 : (l.drop (l.length - 1))[0]? = l[l.length - 1]? := by rw [List.getElem?_drop]; rfl
    rw [hc'] at h0
    rw [List.getD_eq_getElem?_getD, ← h0] at hch
    rw [hc', ← hch]
    rfl
  have h46 : ch ≠ 46 := by rintro rfl; simp at h5
  have HO := Lib.hid (fun w => sniRead_ok m l ch p q u v x y hm' (by omega) (by omega) (by omega) h2 i4 hc h46 w)
  have heq : ((S l).toList == (S l).toList) = true := by simp
  clear i4 hch hk1 hk2 hk3 hm l1 l2 l3 e1 e2 e3 hpq huv hxy hm' hc h46
  have HA := HA.out
  go_enter Tryd.func9, Tryd.ntmps9
  go_wp2_with fail
  refine (HV.out w).mono ?_
  rintro e w1 ⟨rfl, hb1⟩
  go_wp2_with fail
  refine (HV2.out w1).mono ?_
  rintro e w2 ⟨rfl, hb2⟩
  go_wp2_with fail
  refine (HF.out w2).mono ?_
  rintro e w3 ⟨rfl, hb3⟩
  go_wp2_with fail
  refine (HO.out w3).mono ?_
  rintro e w4 ⟨rfl, hb4⟩
  have hb5 := below_two (below_two (below_two hb1 hb2) hb3) hb4
  clear HO HV HV2 HF HA
  go_wp2_with (with_reducible refine Held.store 35 ?_)
  refine held_store_new (cells := extMsg 0 l) extInfo rfl rfl rfl (by simp [extMsg, Value.oneCell']) fun w5 hk hb6 _ => ?_
  go_wp2_with (with_reducible refine Held.loadg 35 ?_)
  refine held_loadg_row hk Tryd.underlying35 extInfo rfl rfl ?_
  go_wp2_with fail
  refine (sameExt0 w5 _ _ 0 l none none 0 0 none none 0 0 none none 0 0 false 0 false none none 0 0 none none 0 0 none none 0 0 none none 0 0 none none 0 0 rfl rfl rfl rfl rfl rfl rfl rfl rfl rfl rfl rfl rfl rfl rfl rfl rfl rfl rfl rfl rfl rfl rfl rfl rfl rfl).mono ?_
  rintro e w6 ⟨rfl, rfl⟩
  go_wp2_with fail
  go_ret
  exact ⟨rfl, below_two (below_two hb5 hb6) (((Below.refl _ w5).alloc (Nat.le_refl _) _).alloc (by simp) _)⟩
theorem sni_row (l : List UInt8) (w : World) {p q r s : Prop} (ad0 : Addr) (g0 : p) (ad1 : Addr) (g1 : q) (ad2 : Addr) (g2 : r) (ad3 : Addr) (g3 : s) :
    Calls Tryd.prog 9 #[.string (S l)] w fun e w' => e = .returned (.bool true) ∧ Below w.heap.size w w' := by
  by_cases h1 : (2147483647 : Int) < l.length
  · exact sni_big l (by simpa using h1) w
  have h1' : decide ((2147483647 : Int) < l.length) = false := by simpa using h1
  by_cases h2 : 0 < l.length
  · by_cases h4 : (l.length : Int) < 60000
    · have h4' : decide ((l.length : Int) < 60000) = true := by simpa using h4
      cases h5 : ((l.getD (l.length - 1) 0).toNat : Int) != 46 with
      | true => exact sni_go l _ _ _ _ _ h1' h2 h4' rfl h5 rfl rfl rfl rfl w
      | false => exact sni_dot l _ h1' h2 h4' rfl h5 w
    · exact sni_long l h1' h2 (by simpa using h4) w
  · have : l = [] := List.eq_nil_of_length_eq_zero (by omega)
    subst this
    exact sni_none w
end Go.Proofs.YtkjpkenhpmjikaaDoor
