/- Walks: the law of a connection ID's extension. -/
import Derived.Test.YtkjpkenhpmjikaaDoorCid
import Derived.Test.YtkjpkenhpmjikaaDoorSame
namespace Go.Proofs.YtkjpkenhpmjikaaDoor
open Go.RowKit Go.Cv
set_option maxRecDepth 100000
set_option linter.unusedVariables false
def extMsg (t : Int) (s : List UInt8) : Array Value := #[.int .u16 t, .string (S s), .slice none 0 0, .slice none 0 0, .slice none 0 0, .bool false, .int .u32 0, .bool false, .slice none 0 0, .slice none 0 0, .slice none 0 0, .slice none 0 0, .slice none 0 0]
theorem dataCid_any (g : Nat) (A : Option Addr) (n c : Nat) (l : List UInt8) (w : World) (hk : Blk w g 117 #[.slice A n c]) (hn : l.length = n) (hr : Rd w A (vs l)) :
    Calls Tryd.prog 64 #[.pointer (some ⟨g, 0, none⟩)] w fun e w' => e = .returned (.agg (extMsg 54 l)) ∧ Below w.heap.size w w' := by
  have hgs := hk.lt
  go_enter Tryd.func64, Tryd.ntmps64
  go_wp2_with (with_reducible refine Held.store 35 ?_)
  refine held_store_at (g := w.heap.size + 1) (by simp) (cells := extMsg 54 []) extInfo rfl rfl rfl (by simp [extMsg, Value.oneCell']) fun w1 hm hb' hsz => ?_
  have hb := below_two (below_alloc w _) hb'
  have hM := (Blk.new w 35 _).keep hb'
  have q0 := (hk.keep hb).cell 0
  have m1 := hm.cell 1
  have f1 := hm.frozen 1
  simp [extMsg] at q0 m1
  have hr1 := hr.keep hb
  have HM := Lib.hid hm
  have HM0 := Lib.hid hM
  clear hk hr hm hM
  go_wp2_with fail
  refine upon_conv_bs 54 9 5 Tryd.underlying54 Tryd.underlying5 Tryd.underlying9 l A n c hn hr1 ?_
  clear hr1
  go_wp2_with (with_reducible refine Held.load 35 ?_)
  have hK := HM.out.set_ 1 (.string (S l))
  have hb2 : Below w.heap.size w (w1.setCell ⟨w.heap.size + 1, 1, none⟩ (.string (S l))) := by (repeat (first | assumption | exact Below.refl _ _ | refine Below.drew ?_ | refine Below.setCell ?_ (by first | omega | (simp; done) | (simp; omega)) _ | refine Below.alloc ?_ (by first | omega | (simp; done) | (simp; omega)) _))
  have hb3 : Below (w.heap.size + 1) w1 (w1.setCell ⟨w.heap.size + 1, 1, none⟩ (.string (S l))) := by (repeat (first | assumption | exact Below.refl _ _ | refine Below.drew ?_ | refine Below.setCell ?_ (by first | omega | (simp; done) | (simp; omega)) _ | refine Below.alloc ?_ (by first | omega | (simp; done) | (simp; omega)) _))
  have hM2 := HM0.out.below hb3 (by omega)
  refine held_load_row (cs := extMsg 54 l) hK Tryd.underlying35 extInfo rfl ?_
  go_wp2_with (with_reducible refine Held.store 35 ?_)
  refine held_store_row (cells := extMsg 54 l) hM2 extInfo rfl rfl rfl (by simp [extMsg, Value.oneCell']) fun w3 hk3 hg3 _ => ?_
  go_wp2_with fail
  exact bodyPost_cell rfl rfl rfl hk3 Tryd.underlying35 extInfo ⟨rfl, hb2.grown hg3 hb2.size (fun k hk' => by simp at hk'; omega)⟩
theorem cidRead_ok (l m : List UInt8) (x y z : UInt8) (hl : l = 0 :: 54 :: x :: y :: z :: m) (hxy : x.toNat * 256 + y.toNat = m.length + 1) (hz : m.length = z.toNat) (w : World) :
    Calls Tryd.prog 26 #[.string (S l)] w fun e w' => e = .returned (.tuple #[.agg (extMsg 54 m), .bool true]) ∧ Below w.heap.size w w' := by
  have hz1 := z.toNat_lt
  have hll : l.length = m.length + 5 := by rw [hl]; simp
  have HC := Lib.hid (fun g b c x0 w hk hr hlc hbs hgb => cid_ok g b c l m x0 x y z hl hxy hz w hk hr hlc hbs hgb)
  have HLM : Hid (l.length ≤ maxLen) := Lib.hid (by simp only [maxLen]; omega)
  clear hl hxy hz hz1 hll
  go_enter Tryd.func26, Tryd.ntmps26
  go_wp2_with fail
  refine upon_conv_sb 9 54 5 Tryd.underlying9 Tryd.underlying54 Tryd.underlying5 l HLM.out ?_
  intro c w1 hown hb hlt
  have hk := ((Blk.new _ 117 #[.slice none 0 0])).keep hb
  have hM := ((Blk.new w 35 _).alloc _).keep hb
  have hr := hown.rd
  have hb1 : Below w.heap.size w w1 := below_two (by (repeat (first | assumption | exact Below.refl _ _ | refine Below.drew ?_ | refine Below.setCell ?_ (by first | omega | (simp; done) | (simp; omega)) _ | refine Below.alloc ?_ (by first | omega | (simp; done) | (simp; omega)) _))) hb
  have hlc := hown.2.1
  simp only [World.size_alloc] at hk hM hr hlt
  clear hown hb
  go_wp2_with fail
  refine (HC.out (w.heap.size + 1) _ c _ w1 hk hr hlc hlt (by omega)).mono ?_
  rintro e w2 ⟨rfl, A', c', hk2, hr2, hg2⟩
  have hM2 := hM.grown hg2 (by simp)
  have hb2 := hb1.grown hg2 hb1.size (fun k hk => by simp at hk; omega)
  clear hk hr hM hb1 hg2 HC
  go_wp2_with fail
  refine (dataCid_any (w.heap.size + 1) A' m.length c' m w2 hk2 rfl hr2).mono ?_
  rintro e w3 ⟨rfl, hb3⟩
  have hM3 := hM2.keep hb3
  have hb4 := below_two hb2 hb3
  clear hM2 hk2 hr2 hb2 hb3
  go_wp2_with (with_reducible refine Held.store 35 ?_)
  refine held_store_row (cells := extMsg 54 m) hM3 extInfo rfl rfl rfl (by simp [extMsg, Value.oneCell']) fun w5 hk5 hg5 _ => ?_
  go_wp2_with fail
  exact bodyPost_cell2 rfl rfl rfl hk5 Tryd.underlying35 extInfo ⟨rfl, hb4.grown hg5 hb4.size (fun k hk' => by simp at hk'; omega)⟩
theorem cidlaw_big (l : List UInt8) (h1 : decide ((2147483647 : Int) < l.length) = true) (w : World) :
    Calls Tryd.prog 8 #[.string (S l)] w fun e w' => e = .returned (.bool true) ∧ Below w.heap.size w w' := by
  have h3 : (S l).size = l.length := S_size l
  go_enter Tryd.func8, Tryd.ntmps8
  go_wp2_with fail
  go_ret
  exact ⟨rfl, Below.refl _ _⟩
theorem cidlaw_long (l : List UInt8) (h1 : decide ((2147483647 : Int) < l.length) = false) (h4 : decide ((l.length : Int) < 256) = false) (w : World) :
    Calls Tryd.prog 8 #[.string (S l)] w fun e w' => e = .returned (.bool true) ∧ Below w.heap.size w w' := by
  have h3 : (S l).size = l.length := S_size l
  go_enter Tryd.func8, Tryd.ntmps8
  go_wp2_with fail
  go_ret
  exact ⟨rfl, Below.refl _ _⟩
theorem be2_parts (n : Nat) (h : n < 65536) : ∃ x y : UInt8, be 2 n = [x, y] ∧ x.toNat * 256 + y.toNat = n :=
  ⟨UInt8.ofNat (n / 256), UInt8.ofNat n, by simp [be], by simp; omega⟩
theorem be1_part (n : Nat) (h : n < 256) : ∃ x : UInt8, be 1 n = [x] ∧ n = x.toNat := ⟨UInt8.ofNat n, by simp [be], by simp; omega⟩
set_option maxHeartbeats 1000000 in
theorem cidlaw_ok (l k m : List UInt8) (h1 : decide ((2147483647 : Int) < l.length) = false) (h4 : decide ((l.length : Int) < 256) = true) (hk : k = be 1 l.length ++ l) (hm : m = be 2 54 ++ (be 2 k.length ++ k)) (w : World) :
    Calls Tryd.prog 8 #[.string (S l)] w fun e w' => e = .returned (.bool true) ∧ Below w.heap.size w w' := by
  have h3 : (S l).size = l.length := S_size l
  have i4 : (l.length : Int) < 256 := by simpa using h4
  have hkl : k.length = l.length + 1 := by rw [hk, List.length_append, be_length]; omega
  have HV := Lib.hid (fun w => vec_any 1 (by omega) l (by omega) w)
  rw [← hk] at HV
  have HF := Lib.hid (fun w => framedExt_any 54 (by omega) k (by omega) w)
  rw [← hm] at HF
  obtain ⟨x, y, e2, hxy⟩ := be2_parts k.length (by omega)
  obtain ⟨z, e1, hz⟩ := be1_part l.length (by omega)
  have HO := Lib.hid (fun w => cidRead_ok m l x y z (by rw [hm, e2, hk, e1]; rfl) (by omega) hz w)
  have heq : ((S l).toList == (S l).toList) = true := by simp
  clear hk hm hkl i4 e2 e1 hxy hz
  go_enter Tryd.func8, Tryd.ntmps8
  go_wp2_with fail
  refine (HV.out w).mono ?_
  rintro e w1 ⟨rfl, hb1⟩
  go_wp2_with fail
  refine (HF.out w1).mono ?_
  rintro e w2 ⟨rfl, hb2⟩
  go_wp2_with fail
  refine (HO.out w2).mono ?_
  rintro e w3 ⟨rfl, hb3⟩
  have hb4 := below_two (below_two hb1 hb2) hb3
  clear HO HV HF
  go_wp2_with (with_reducible refine Held.store 35 ?_)
  refine held_store_new (cells := extMsg 54 l) extInfo rfl rfl rfl (by simp [extMsg, Value.oneCell']) fun w5 hk hb5 _ => ?_
  go_wp2_with (with_reducible refine Held.loadg 35 ?_)
  refine held_loadg_row hk Tryd.underlying35 extInfo rfl rfl ?_
  go_wp2_with fail
  refine (sameExt0 w5 _ _ 54 l none none 0 0 none none 0 0 none none 0 0 false 0 false none none 0 0 none none 0 0 none none 0 0 none none 0 0 none none 0 0 rfl rfl rfl rfl rfl rfl rfl rfl rfl rfl rfl rfl rfl rfl rfl rfl rfl rfl rfl rfl rfl rfl rfl rfl rfl rfl).mono ?_
  rintro e w6 ⟨rfl, rfl⟩
  go_wp2_with fail
  go_ret
  exact ⟨rfl, below_two (below_two hb4 hb5) (((Below.refl _ w5).alloc (Nat.le_refl _) _).alloc (by simp) _)⟩
theorem cidlaw_row (l : List UInt8) (w : World) {p q r s : Prop} (ad0 : Addr) (g0 : p) (ad1 : Addr) (g1 : q) (ad2 : Addr) (g2 : r) (ad3 : Addr) (g3 : s) :
    Calls Tryd.prog 8 #[.string (S l)] w fun e w' => e = .returned (.bool true) ∧ Below w.heap.size w w' := by
  by_cases h1 : (2147483647 : Int) < l.length
  · exact cidlaw_big l (by simpa using h1) w
  have h1' : decide ((2147483647 : Int) < l.length) = false := by simpa using h1
  by_cases h4 : (l.length : Int) < 256
  · exact cidlaw_ok l _ _ h1' (by simpa using h4) rfl rfl w
  · exact cidlaw_long l h1' (by simpa using h4) w
end Go.Proofs.YtkjpkenhpmjikaaDoor
