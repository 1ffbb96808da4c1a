/- Walks: the law of a cookie's extension that lacks bytes. -/
import Derived.Test.YtkjpkenhpmjikaaDoorCookieOk
import Derived.Test.YtkjpkenhpmjikaaDoorExt
namespace Go.Proofs.YtkjpkenhpmjikaaDoor
open Go.RowKit Go.Cv
set_option maxRecDepth 100000
set_option linter.unusedVariables false
theorem dataCookie_any (g : Nat) (A : Option Addr) (n c : Nat) (l : List UInt8) (w : World) (hk : Blk w g 83 #[.slice A n c]) (hn : l.length = n) (hr : Rd w A (vs l)) :
    Calls Tryd.prog 46 #[.pointer (some ⟨g, 0, none⟩)] w fun e w' => e = .returned (.agg (extMsg 44 l)) ∧ Below w.heap.size w w' := by
  have hgs := hk.lt
  go_enter Tryd.func46, Tryd.ntmps46
  go_wp2_with (with_reducible refine Held.store 35 ?_)
  refine held_store_at (g := w.heap.size + 1) (by simp) (cells := extMsg 44 []) extInfo rfl rfl rfl (by simp [extMsg, Value.oneCell']) fun w1 hm hb' hsz => ?_
  have hb := below_two (below_alloc w _) hb'
  have hM := (Blk.new w 35 _).keep hb'
  have q0 := (hk.keep hb).cell 0
  have m1 := hm.cell 1
  have f1 := hm.frozen 1
  simp [extMsg] at q0 m1
  have hr1 := hr.keep hb
  have HM := Lib.hid hm
  have HM0 := Lib.hid hM
  clear hk hr hm hM
  go_wp2_with fail
  refine upon_conv_bs 54 9 5 Tryd.underlying54 Tryd.underlying5 Tryd.underlying9 l A n c hn hr1 ?_
  clear hr1
  go_wp2_with (with_reducible refine Held.load 35 ?_)
  have hK := HM.out.set_ 1 (.string (S l))
  have hb2 : Below w.heap.size w (w1.setCell ⟨w.heap.size + 1, 1, none⟩ (.string (S l))) := by (repeat (first | assumption | exact Below.refl _ _ | refine Below.drew ?_ | refine Below.setCell ?_ (by first | omega | (simp; done) | (simp; omega)) _ | refine Below.alloc ?_ (by first | omega | (simp; done) | (simp; omega)) _))
  have hb3 : Below (w.heap.size + 1) w1 (w1.setCell ⟨w.heap.size + 1, 1, none⟩ (.string (S l))) := by (repeat (first | assumption | exact Below.refl _ _ | refine Below.drew ?_ | refine Below.setCell ?_ (by first | omega | (simp; done) | (simp; omega)) _ | refine Below.alloc ?_ (by first | omega | (simp; done) | (simp; omega)) _))
  have hM2 := HM0.out.below hb3 (by omega)
  refine held_load_row (cs := extMsg 44 l) hK Tryd.underlying35 extInfo rfl ?_
  go_wp2_with (with_reducible refine Held.store 35 ?_)
  refine held_store_row (cells := extMsg 44 l) hM2 extInfo rfl rfl rfl (by simp [extMsg, Value.oneCell']) fun w3 hk3 hg3 _ => ?_
  go_wp2_with fail
  exact bodyPost_cell rfl rfl rfl hk3 Tryd.underlying35 extInfo ⟨rfl, hb2.grown hg3 hb2.size (fun k hk' => by simp at hk'; omega)⟩
theorem cookieRead_ok (l m : List UInt8) (x y u v : UInt8) (hl : l = 0 :: 44 :: x :: y :: u :: v :: m) (hxy : x.toNat * 256 + y.toNat = m.length + 2) (huv : u.toNat * 256 + v.toNat = m.length) (hm0 : 0 < m.length) (hm1 : (m.length : Int) < 60000) (w : World) :
    Calls Tryd.prog 21 #[.string (S l)] w fun e w' => e = .returned (.tuple #[.agg (extMsg 44 m), .bool true]) ∧ Below w.heap.size w w' := by
  have hll : l.length = m.length + 6 := by rw [hl]; simp
  have HC := Lib.hid (fun g b c x0 w hk hr hlc hbs hgb => cookie_ok g b c l m x y u v x0 hl hxy huv hm0 hm1 w hk hr hlc hbs hgb)
  have HLM : Hid (l.length ≤ maxLen) := Lib.hid (by simp only [maxLen]; omega)
  clear hl hxy huv hll hm1
  go_enter Tryd.func21, Tryd.ntmps21
  go_wp2_with fail
  refine upon_conv_sb 9 54 5 Tryd.underlying9 Tryd.underlying54 Tryd.underlying5 l HLM.out ?_
  intro c w1 hown hb hlt
  have hk := ((Blk.new _ 83 #[.slice none 0 0])).keep hb
  have hM := ((Blk.new w 35 _).alloc _).keep hb
  have hr := hown.rd
  have hb1 : Below w.heap.size w w1 := below_two (by (repeat (first | assumption | exact Below.refl _ _ | refine Below.drew ?_ | refine Below.setCell ?_ (by first | omega | (simp; done) | (simp; omega)) _ | refine Below.alloc ?_ (by first | omega | (simp; done) | (simp; omega)) _))) hb
  have hlc := hown.2.1
  simp only [World.size_alloc] at hk hM hr hlt
  clear hown hb
  go_wp2_with fail
  refine (HC.out (w.heap.size + 1) _ c _ w1 hk hr hlc hlt (by omega)).mono ?_
  rintro e w2 ⟨rfl, A', c', hk2, hr2, hg2⟩
  have hM2 := hM.grown hg2 (by simp)
  have hb2 := hb1.grown hg2 hb1.size (fun k hk => by simp at hk; omega)
  clear hk hr hM hb1 hg2 HC
  go_wp2_with fail
  refine (dataCookie_any (w.heap.size + 1) A' m.length c' m w2 hk2 rfl hr2).mono ?_
  rintro e w3 ⟨rfl, hb3⟩
  have hM3 := hM2.keep hb3
  have hb4 := below_two hb2 hb3
  clear hM2 hk2 hr2 hb2 hb3
  go_wp2_with (with_reducible refine Held.store 35 ?_)
  refine held_store_row (cells := extMsg 44 m) hM3 extInfo rfl rfl rfl (by simp [extMsg, Value.oneCell']) fun w5 hk5 hg5 _ => ?_
  go_wp2_with fail
  exact bodyPost_cell2 rfl rfl rfl hk5 Tryd.underlying35 extInfo ⟨rfl, hb4.grown hg5 hb4.size (fun k hk' => by simp at hk'; omega)⟩
/-- What is refused. -/
def Cut (a b : UInt8) (l : List UInt8) : Prop := l.length < 2 ∨ ∃ r, l = a :: b :: r ∧ Short2 r
theorem cookieRead_no (l : List UInt8) (hc : Cut 0 44 l) (hm : (l.length : Int) ≤ 3000000000) (w : World) (ad0 ad2 : Addr)
    (hg0 : w.cell? ⟨0, 0, none⟩ = some (.iface 210 (.pointer (some ad0)))) (hg2 : w.cell? ⟨2, 0, none⟩ = some (.iface 210 (.pointer (some ad2)))) :
    Calls Tryd.prog 21 #[.string (S l)] w fun e w' => e = .returned (.tuple #[.agg zeroExt, .bool false]) ∧ Below w.heap.size w w' := by
  have hwg := block_lt hg0
  have HC : Hid (∀ (g b c : Nat) (x0 : Value) (w1 : World), Below w.heap.size w w1 → w.heap.size ≤ g → Blk w1 g 83 #[x0] → Rd w1 (some ⟨b, 0, none⟩) (vs l) → l.length ≤ c → b < w1.heap.size → Calls Tryd.prog 45 #[.pointer (some ⟨g, 0, none⟩), .slice (some ⟨b, 0, none⟩) l.length c] w1 fun e w' =>
      ∃ ad, e = .returned (.iface 210 (.pointer (some ad))) ∧ Below w1.heap.size w1 w') := fun g b c x0 w1 hb hg hk hr hlc hbs => by
    rcases hc with h | ⟨r, h, hs⟩
    · exact (cookie_no1 g b c l x0 h ad2 w1 hk hr hlc hbs (keep_of_below hb _ _ hg2)).mono (fun e w' h => ⟨_, h⟩)
    · exact (cookie_no2 g b c l r x0 h hs hm ad0 w1 hk hr hlc hbs (keep_of_below hb _ _ hg0) (by simp only at hwg; omega)).mono (fun e w' h => ⟨_, h⟩)
  have HLM : Hid (l.length ≤ maxLen) := Lib.hid (by simp only [maxLen]; omega)
  clear hc hm hg0 hg2 hwg
  go_enter Tryd.func21, Tryd.ntmps21
  go_wp2_with fail
  refine upon_conv_sb 9 54 5 Tryd.underlying9 Tryd.underlying54 Tryd.underlying5 l HLM.out ?_
  intro c w1 hown hb hlt
  have hk := ((Blk.new _ 83 #[.slice none 0 0])).keep hb
  have hM := ((Blk.new w 35 _).alloc _).keep hb
  have hr := hown.rd
  have hb1 : Below w.heap.size w w1 := below_two (by (repeat (first | assumption | exact Below.refl _ _ | refine Below.drew ?_ | refine Below.setCell ?_ (by first | omega | (simp; done) | (simp; omega)) _ | refine Below.alloc ?_ (by first | omega | (simp; done) | (simp; omega)) _))) hb
  have hlc := hown.2.1
  simp only [World.size_alloc] at hk hM hr hlt
  clear hown hb
  go_wp2_with fail
  refine (HC.out (w.heap.size + 1) _ c _ w1 hb1 (by omega) hk hr hlc hlt).mono ?_
  rintro e w2 ⟨ad, rfl, hb2⟩
  have hM2 := hM.keep hb2
  have hb4 := below_two hb1 hb2
  clear hk hr hM hb1 hb2 HC
  go_wp2_with (with_reducible refine Held.store 35 ?_)
  refine held_store_row (cells := zeroExt) hM2 extInfo rfl rfl rfl (by simp [zeroExt, Value.oneCell']) fun w5 hk5 hg5 _ => ?_
  go_wp2_with fail
  exact bodyPost_cell2 rfl rfl rfl hk5 Tryd.underlying35 extInfo ⟨rfl, hb4.grown hg5 hb4.size (fun k hk' => by simp at hk'; omega)⟩
theorem ckc_big (l : List UInt8) (x : Int) (h1 : decide ((2147483647 : Int) < l.length) = true) (w : World) :
    Calls Tryd.prog 5 #[.string (S l), .int .i64 x] w fun e w' => e = .returned (.bool true) ∧ Below w.heap.size w w' := by
  have h3 : (S l).size = l.length := S_size l
  go_enter Tryd.func5, Tryd.ntmps5
  go_wp2_with fail
  go_ret
  exact ⟨rfl, Below.refl _ _⟩
theorem ckc_none (x : Int) (w : World) :
    Calls Tryd.prog 5 #[.string (S []), .int .i64 x] w fun e w' => e = .returned (.bool true) ∧ Below w.heap.size w w' := by
  have h3 : (S []).size = 0 := S_size []
  go_enter Tryd.func5, Tryd.ntmps5
  go_wp2_with fail
  go_ret
  exact ⟨rfl, Below.refl _ _⟩
theorem ckc_long (l : List UInt8) (x : Int) (h1 : decide ((2147483647 : Int) < l.length) = false) (h2 : 0 < l.length) (h4 : decide ((l.length : Int) < 60000) = false) (w : World) :
    Calls Tryd.prog 5 #[.string (S l), .int .i64 x] w fun e w' => e = .returned (.bool true) ∧ Below w.heap.size w w' := by
  have h3 : (S l).size = l.length := S_size l
  go_enter Tryd.func5, Tryd.ntmps5
  go_wp2_with fail
  go_ret
  exact ⟨rfl, Below.refl _ _⟩
theorem ckc_small (l : List UInt8) (x : Int) (h1 : decide ((2147483647 : Int) < l.length) = false) (h2 : 0 < l.length) (h4 : decide ((l.length : Int) < 60000) = true) (h5 : decide (x < 1) = true) (w : World) :
    Calls Tryd.prog 5 #[.string (S l), .int .i64 x] w fun e w' => e = .returned (.bool true) ∧ Below w.heap.size w w' := by
  have h3 : (S l).size = l.length := S_size l
  go_enter Tryd.func5, Tryd.ntmps5
  go_wp2_with fail
  refine (vec_any 2 (by omega) l (by simp at h4; omega) w).mono ?_
  rintro e w1 ⟨rfl, hb1⟩
  go_wp2_with fail
  refine (framedExt_any 44 (by omega) (be 2 l.length ++ l) (by rw [List.length_append, be_length]; simp at h4; omega) w1).mono ?_
  rintro e w2 ⟨rfl, hb2⟩
  go_wp2_with fail
  go_ret
  exact ⟨rfl, below_two hb1 hb2⟩
theorem ckc_over (l : List UInt8) (x : Int) (h1 : decide ((2147483647 : Int) < l.length) = false) (h2 : 0 < l.length) (h4 : decide ((l.length : Int) < 60000) = true) (h5 : decide (x < 1) = false) (m : List UInt8) (hm : m = be 2 44 ++ (be 2 (be 2 l.length ++ l).length ++ (be 2 l.length ++ l))) (h6 : decide ((m.length : Int) < x) = true) (w : World) :
    Calls Tryd.prog 5 #[.string (S l), .int .i64 x] w fun e w' => e = .returned (.bool true) ∧ Below w.heap.size w w' := by
  have h3 : (S l).size = l.length := S_size l
  have h7 : (S m).size = m.length := S_size m
  have HV := Lib.hid (fun w => vec_any 2 (by omega) l (by simp at h4; omega) w)
  have HF := Lib.hid (fun w => framedExt_any 44 (by omega) (be 2 l.length ++ l) (by rw [List.length_append, be_length]; simp at h4; omega) w)
  rw [← hm] at HF
  clear hm
  go_enter Tryd.func5, Tryd.ntmps5
  go_wp2_with fail
  refine (HV.out w).mono ?_
  rintro e w1 ⟨rfl, hb1⟩
  go_wp2_with fail
  refine (HF.out w1).mono ?_
  rintro e w2 ⟨rfl, hb2⟩
  go_wp2_with fail
  go_ret
  exact ⟨rfl, below_two hb1 hb2⟩
set_option maxHeartbeats 1000000 in
theorem ckc_cut (l m k : List UInt8) (x : Nat) (h1 : decide ((2147483647 : Int) < l.length) = false) (h2 : 0 < l.length) (h4 : decide ((l.length : Int) < 60000) = true) (hm : m = be 2 44 ++ (be 2 (be 2 l.length ++ l).length ++ (be 2 l.length ++ l))) (hk : k = m.take (m.length - x)) (h5 : decide ((x : Int) < 1) = false) (h6 : decide ((m.length : Int) < x) = false) (w : World) (ad0 ad2 : Addr)
    (hg0 : w.cell? ⟨0, 0, none⟩ = some (.iface 210 (.pointer (some ad0)))) (hg2 : w.cell? ⟨2, 0, none⟩ = some (.iface 210 (.pointer (some ad2)))) :
    Calls Tryd.prog 5 #[.string (S l), .int .i64 x] w fun e w' => e = .returned (.bool true) ∧ Below w.heap.size w w' := by
  have h3 : (S l).size = l.length := S_size l
  have h7 : (S m).size = m.length := S_size m
  have hx := S_extract m 0 (m.length - x)
  simp only [List.drop_zero] at hx
  rw [← hk] at hx
  have i4 : (l.length : Int) < 60000 := by simpa using h4
  have i1 : (1 : Int) ≤ x := by simpa using h5
  have i2 : (x : Int) ≤ m.length := by simpa using h6
  have hbl : (be 2 l.length ++ l).length = l.length + 2 := by rw [List.length_append, be_length]; omega
  have HV := Lib.hid (fun w => vec_any 2 (by omega) l (by omega) w)
  have HF := Lib.hid (fun w => framedExt_any 44 (by omega) (be 2 l.length ++ l) (by omega) w)
  rw [← hm] at HF
  obtain ⟨p, q, e2, hpq⟩ := be2_parts (be 2 l.length ++ l).length (by omega)
  obtain ⟨u, v, e1, huv⟩ := be2_parts l.length (by omega)
  have hm' : m = 0 :: 44 :: p :: q :: u :: v :: l := by rw [hm, e2, e1]; rfl
  have hml : m.length = l.length + 6 := by rw [hm']; simp
  have hcut : Cut 0 44 k := by
    rw [hk, hm']
    exact cut_short 0 44 p q (u :: v :: l) (by rw [hpq, hbl]; simp) _ (by simp; omega)
  have hkl : k.length = m.length - x := by rw [hk]; simp
  have HO := Lib.hid (fun w => cookieRead_ok m l p q u v hm' (by omega) huv h2 i4 w)
  have HN := Lib.hid (fun w hg0 hg2 => cookieRead_no k hcut (by omega) w ad0 ad2 hg0 hg2)
  have iF : (0 : Int) ≤ (m.length : Int) - x := by omega
  have iG : (m.length : Int) - x ≤ m.length := by omega
  have iH : ((m.length : Int) - x).toNat = m.length - x := by omega
  have hw : wrap64 ((m.length : Int) - x) = (m.length : Int) - x := by unfold wrap64; omega
  have n1 : ¬ m.length < x := by omega
  have n2 : ¬ x < 1 := by omega
  clear hm hm' hk hkl i1 i2 i4 hml e1 e2 hpq huv hcut hbl
  go_enter Tryd.func5, Tryd.ntmps5
  go_wp2_with fail
  refine (HV.out w).mono ?_
  rintro e w1 ⟨rfl, hb1⟩
  go_wp2_with fail
  refine (HF.out w1).mono ?_
  rintro e w2 ⟨rfl, hb2⟩
  go_wp2_with fail
  refine (HO.out w2).mono ?_
  rintro e w3 ⟨rfl, hb3⟩
  have hb4 := below_two (below_two hb1 hb2) hb3
  go_wp2_with (with_reducible refine Held.store 35 ?_)
  refine held_store_new (cells := extMsg 44 l) extInfo rfl rfl rfl (by simp [extMsg, Value.oneCell']) fun w5 _ hb5 _ => ?_
  have hb6 := below_two hb4 hb5
  have hg05 := keep_of_below hb6 _ _ hg0
  have hg25 := keep_of_below hb6 _ _ hg2
  go_wp2_with fail
  refine (HN.out w5 hg05 hg25).mono ?_
  rintro e w7 ⟨rfl, hb7⟩
  have hb8 := below_two hb6 hb7
  go_wp2_with (with_reducible refine Held.store 35 ?_)
  refine held_store_new (cells := zeroExt) extInfo rfl rfl rfl (by simp [zeroExt, Value.oneCell']) fun w9 _ hb9 _ => ?_
  go_wp2_with fail
  go_ret
  exact ⟨rfl, below_two hb8 hb9⟩
theorem ckc_row (l : List UInt8) (x : Int) (hx : (Lit.int .i64 x).wf = true) (w : World) {p3 p4 : Prop} (ad0 : Addr) (hg0 : w.cell? ⟨0, 0, none⟩ = some (.iface 210 (.pointer (some ad0)))) (ad2 : Addr) (hg2 : w.cell? ⟨2, 0, none⟩ = some (.iface 210 (.pointer (some ad2)))) (ad3 : Addr) (g3 : p3) (ad4 : Addr) (g4 : p4) :
    Calls Tryd.prog 5 #[.string (S l), .int .i64 x] w fun e w' => e = .returned (.bool true) ∧ Below w.heap.size w w' := by
  by_cases h1 : (2147483647 : Int) < l.length
  · exact ckc_big l x (by simpa using h1) w
  have h1' : decide ((2147483647 : Int) < l.length) = false := by simpa using h1
  by_cases h2 : 0 < l.length
  · by_cases h4 : (l.length : Int) < 60000
    · have h4' : decide ((l.length : Int) < 60000) = true := by simpa using h4
      by_cases h5 : x < 1
      · exact ckc_small l x h1' h2 h4' (by simpa using h5) w
      · have h5' : decide (x < 1) = false := by simpa using h5
        obtain ⟨m, hm⟩ : ∃ m, m = be 2 44 ++ (be 2 (be 2 l.length ++ l).length ++ (be 2 l.length ++ l)) := ⟨_, rfl⟩
        by_cases h6 : (m.length : Int) < x
        · exact ckc_over l x h1' h2 h4' h5' m hm (by simpa using h6) w
        · obtain ⟨y, rfl⟩ : ∃ y : Nat, x = y := ⟨x.toNat, by omega⟩
          exact ckc_cut l m _ y h1' h2 h4' hm rfl h5' (by simpa using h6) w ad0 ad2 hg0 hg2
    · exact ckc_long l x h1' h2 (by simpa using h4) w
  · have : l = [] := List.eq_nil_of_length_eq_zero (by omega)
    subst this
    exact ckc_none x w
end Go.Proofs.YtkjpkenhpmjikaaDoor
