/- Walks: a client's key exchange with an identity, read. -/
import Derived.Test.YtnjomlcenolkdaaDoorClientKey
import Derived.Test.YtnjomlcenolkdaaDoorU16
namespace Go.Proofs.YtnjomlcenolkdaaDoor
open Go.RowKit Go.Cv
set_option maxRecDepth 100000
set_option linter.unusedVariables false
theorem ck2_ok (g : Nat) (x0 x1 : Value) (b o n c : Nat) (l : List UInt8) (p q : Nat) (hn : (2 : Int) ≤ n) (hm : (n : Int) ≤ 3000000000) (hnc : (n : Int) ≤ c) (hp : (p : Int) < 256) (hq : (q : Int) < 256) (v : Nat) (hv : p * 256 + q = v) (h0v : 0 < v) (hle : (v : Int) ≤ (n : Int) - 2) (w : World)
    (hk : Blk w g 88 #[x0, x1, .int .i64 2]) (hr : Rd w (some ⟨b, o, none⟩) (vs l)) (hl : l.length = n) (h0 : w.cell? ⟨b, o, none⟩ = some (.int .u8 p)) (h1 : w.cell? ⟨b, o + 1, none⟩ = some (.int .u8 q)) :
    Calls Tryd.prog 37 #[.pointer (some ⟨g, 0, none⟩), .slice (some ⟨b, o, none⟩) n c] w fun e w' =>
      e = .returned .nilIface ∧ ∃ A' c', Blk w' g 88 #[.slice A' v c', x1, .int .i64 2] ∧ Rd w' A' (vs ((l.drop 2).take v)) ∧ w.grownBy w' (some g) := by
  have hgs := hk.lt
  have e1 : (2 : Int) ≤ v + 2 := by omega
  have e4 : ¬ c = 2 := by omega
  have e5 : ¬ c ≤ 2 := by omega
  have e2 : (v : Int) + 2 ≤ n := by omega
  have HU := Lib.hid (fun w h0 h1 => u16_any b o n c p q hp hq hn w h0 h1)
  rw [hv] at HU
  have k2 := hk.cell 2
  simp at k2
  clear hp hq hv
  go_enter Tryd.func37, Tryd.ntmps37
  go_wp2_with fail
  refine (has22 w).mono ?_
  rintro e w1 ⟨rfl, rfl⟩
  go_wp2_with fail
  refine (HU.out w h0 h1).mono ?_
  rintro e w1 ⟨rfl, hb1⟩
  have hk1 := hk.keep hb1
  have hr1 := hr.keep hb1
  have hgs1 := hk1.lt
  clear HU h0 h1 k2
  go_wp2_with (at_builtin; refine Held.on ?_)
  have hz : 0 + (2 + v - 2) = v := by omega
  have hl1 : ((l.drop 2).take v).length = v := by simp; omega
  have hR1 : Rd (w1.alloc (.cells #[] 5)) (some ⟨b, o + 2, none⟩) (vs ((l.drop 2).take v)) := by
    rw [vs_take, vs_drop]
    exact ((hr1.drop 2).take v).keep (below_alloc _ _)
  refine held_append rfl (.tmp 36) (.tmp 40) 27 27 rfl w1.heap.size 5 _ 1 1 Tryd.underlying27 (.inl Tryd.underlying27) u8info rfl (by omega) (xs := []) (ys := vs ((l.drop 2).take v)) rfl rfl (own_made0 w1 _) ⟨by rw [vs_length, hl1]; simp, vs_one _, .inl ⟨_, _, rfl, hR1⟩⟩ (by omega) (by simp only [maxLen]; omega) (by simp) ?_
  intro A' c' w2 hown hg hor
  have hk2 := (hk1.alloc (.cells #[] 5)).grown hg (by simp; omega)
  have q0 := hk2.cell 0
  have q2 := hk2.cell 2
  have f0 := hk2.frozen 0
  have hK := hk2.set_ 0 (.slice A' (0 + (v + 2 - 2)) c')
  have hG := grown_trans (grown_of_below (below_two hb1 (below_append_new hg)) (some g)) (grown_set w2 g 0 (.slice A' (0 + (v + 2 - 2)) c'))
  have hO := hown.grown (grown_set w2 g 0 (.slice A' (0 + (v + 2 - 2)) c')) (.inl (by rcases hor with ⟨rfl, _⟩ | rfl <;> simp <;> omega))
  simp at q0 q2
  clear hk hr hR1 hg hown hr1 hk1
  go_wp2_with fail
  refine (has24 _).mono ?_
  rintro e w3 ⟨rfl, rfl⟩
  go_wp2_with fail
  go_ret
  exact ⟨rfl, A', c', by simpa using hK, by simpa using hO.rd, by simpa using hG⟩

theorem clientKeyRead_ok2 (l : List UInt8) (p q v : Nat) (hn : (2 : Int) ≤ l.length) (hm : (l.length : Int) ≤ 3000000000) (hp : (p : Int) < 256) (hq : (q : Int) < 256) (hv : p * 256 + q = v) (h0v : 0 < v) (hle : (v : Int) = (l.length : Int) - 2) (hh0 : l.getD 0 0 = UInt8.ofNat p) (hh1 : l.getD 1 0 = UInt8.ofNat q)
    (m : List UInt8) (hqm : (l.drop 2).take v = m) (hqn : m.length = v) (w : World) :
    Calls Tryd.prog 17 #[.int .i64 2, .string (S l)] w fun e w' => e = .returned (.tuple #[.agg (ckMsg m [] 2), .bool true]) ∧ Below w.heap.size w w' := by
  have hp' : (UInt8.ofNat p).toNat = p := by simp; omega
  have hq' : (UInt8.ofNat q).toNat = q := by simp; omega
  have HC := Lib.hid (fun g b c w hnc hk hr h0 h1 => ck2_ok g (.slice none 0 0) (.slice none 0 0) b 0 l.length c l p q hn hm hnc hp hq v hv h0v (by omega) w hk hr rfl h0 h1)
  clear hp hq hv hle
  go_enter Tryd.func17, Tryd.ntmps17
  go_wp2_with fail
  refine upon_conv_sb 9 27 5 Tryd.underlying9 Tryd.underlying27 Tryd.underlying5 l (by simp only [maxLen]; omega) ?_
  intro c w1 hown hb hlt
  have hk := ((Blk.new _ 88 #[.slice none 0 0, .slice none 0 0, .int .i64 2])).keep hb
  have hM := ((Blk.new w 34 _).alloc _).keep hb
  have hr := hown.rd
  have hb1 : Below w.heap.size w w1 := below_two (by (repeat (first | assumption | exact Below.refl _ _ | refine Below.drew ?_ | refine Below.setCell ?_ (by first | omega | (simp; done) | (simp; omega)) _ | refine Below.alloc ?_ (by first | omega | (simp; done) | (simp; omega)) _))) hb
  have hlc := hown.2.1
  clear hown
  have h0 := hr.byte 0 (by omega)
  have h1 := hr.byte 1 (by omega)
  rw [hh0, hp'] at h0
  rw [hh1, hq'] at h1
  simp only [World.size_alloc] at hk hM hr h0 h1 hlt
  clear hb hh0 hh1 hp' hq'
  go_wp2_with fail
  refine (HC.out (w.heap.size + 1) _ c w1 (by omega) hk hr (by simpa using h0) (by simpa using h1)).mono ?_
  rintro e w2 ⟨rfl, A', c', hk2, hr2, hg2⟩
  rw [hqm] at hr2
  have hM2 := hM.grown hg2 (by simp)
  have hb2 := hb1.grown hg2 hb1.size (fun k hk => by simp at hk; omega)
  clear hk hr hM hb1 hg2 h0 h1 HC hqm
  go_wp2_with fail
  refine (dataCk_any (w.heap.size + 1) A' none v 0 c' 0 m [] 2 w2 hk2 hqn rfl hr2 (.nil _ _)).mono ?_
  rintro e w3 ⟨rfl, hb3⟩
  have hM3 := hM2.keep hb3
  have hb4 := below_two hb2 hb3
  clear hM2 hk2 hr2 hb2 hb3
  go_wp2_with (with_reducible refine Held.store 34 ?_)
  refine held_store_row (cells := ckMsg m [] 2) hM3 msgInfo rfl rfl rfl (by simp [ckMsg, Value.oneCell']) fun w5 hk5 hg5 _ => ?_
  go_wp2_with fail
  exact bodyPost_cell2 rfl rfl rfl hk5 Tryd.underlying34 msgInfo ⟨rfl, hb4.grown hg5 hb4.size (fun k hk' => by simp at hk'; omega)⟩
end Go.Proofs.YtnjomlcenolkdaaDoor
