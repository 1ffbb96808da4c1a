/- Walks: a hello verify request, read. -/
import Derived.Test.YtnjomlcenolkdaaDoorBig
import Derived.Test.YtnjomlcenolkdaaDoorOps4
import Derived.StillTailTactics
import Derived.Test.YtnjomlcenolkdaaDoorRow
import Derived.Deep.RegionHeld3
namespace Go.Proofs.YtnjomlcenolkdaaDoor
open Go.RowKit Go.Cv
set_option maxRecDepth 100000
set_option linter.unusedVariables false
theorem grown_then {w w1 w2 : World} {g b : Nat} (h1 : w.grownBy w1 (some g)) (h2 : w1.grownBy w2 (some b)) (hb : w.heap.size ≤ b) : w.grownBy w2 (some g) :=
  ⟨h2.os.trans h1.os, h2.tape.trans h1.tape, h2.output.trans h1.output, Nat.le_trans h1.size h2.size,
    fun k hk hne => (h2.block k (Nat.lt_of_lt_of_le hk h1.size) (by simp; omega)).trans (h1.block k hk hne)⟩
theorem vrInfo : (Tryd.prog.info? 34).map (·.size) = some 25 := by kernel_rfl
theorem vr_ok (g : Nat) (b o n c : Nat) (l : List UInt8) (p : Nat) (hn : (3 : Int) ≤ n) (hnc : (n : Int) ≤ c) (hp : (p : Int) < 256) (hle : (n : Int) = p + 3) (w : World)
    (x0 x1 x2 : Value) (hk : Blk w g 60 #[x0, x1, x2]) (hr : Rd w (some ⟨b, o, none⟩) (vs l)) (hl : l.length = n) (h0 : w.cell? ⟨b, o, none⟩ = some (.int .u8 254)) (h1 : w.cell? ⟨b, o + 1, none⟩ = some (.int .u8 253)) (h2 : w.cell? ⟨b, o + 2, none⟩ = some (.int .u8 p)) (hgb : g ≠ b) :
    Calls Tryd.prog 20 #[.pointer (some ⟨g, 0, none⟩), .slice (some ⟨b, o, none⟩) n c] w fun e w' =>
      e = .returned .nilIface ∧ ∃ A' c', Blk w' g 60 #[.int .u8 254, .int .u8 253, .slice A' p c'] ∧ Rd w' A' (vs (l.drop 3)) ∧ w.grownBy w' (some g) := by
  have hgs := hk.lt
  have e1 : (0 : Int) < n := by omega
  have e2 : (1 : Int) < n := by omega
  have e3 : (2 : Int) < n := by omega
  have e4 : (0 : Int) ≤ p := by omega
  have e5 : ¬ (n : Int) < p + 3 := by omega
  have e6 : (3 : Int) ≤ 3 + p := by omega
  have e7 : (3 : Int) + p ≤ c := by omega
  have e8 : wrap64 ((3 : Int) + p) = 3 + p := by unfold wrap64; omega
  have e9 : IntKind.i64.wrap ((3 : Int) + p) = 3 + p := by rw [IntKind.wrap_i64]; omega
  have k0 := hk.cell 0
  have k1 := hk.cell 1
  have k2 := hk.cell 2
  have f0 := hk.frozen 0
  have f1 := hk.frozen 1
  have f2 := hk.frozen 2
  simp at k0 k1 k2
  go_enter Tryd.func20, Tryd.ntmps20
  go_wp2_with fail
  refine upon_make 27 5 (.int .u8 0) 1 Tryd.underlying27 u8info rfl p p rfl rfl (Nat.le_refl _) (by omega) (by simp only [maxLen]; omega) ?_
  intro w1 hown hb hsz
  have hg1 := grown_trans (grown_set w g 0 (.int .u8 254)) (grown_set _ g 1 (.int .u8 253))
  have hK := ((hk.set_ 0 (.int .u8 254)).set_ 1 (.int .u8 253)).keep hb
  have hR : Rd w1 (some ⟨b, o, none⟩) (vs l) := by
    rcases hr with h | ⟨b', o', hA, h⟩
    · exact .inl h
    · injection hA with hA
      injection hA with hb' ho'
      subst hb' ho'
      refine .inr ⟨b, o, rfl, fun j v hj => keep_of_below hb _ _ (hg1.cell (h j v hj) (by simp; omega))⟩
  have hG1 := grown_trans hg1 (grown_of_below hb (some g))
  simp only [World.size_setCell] at hown
  have hgs1 : g < w1.heap.size := hK.lt
  have q2 := hK.cell 2
  have r2 := hK.frozen 2
  simp at q2
  clear k0 k1 k2 f0 f1 f2 hk hr
  go_wp2_with fail
  have hK2 := hK.set_ 2 (.slice (some ⟨w.heap.size, 0, none⟩) p p)
  have hgw2 := grown_set w1 g 2 (.slice (some ⟨w.heap.size, 0, none⟩) p p)
  have hO2 := hown.grown hgw2 (.inl (by simp; omega))
  have hG2 := grown_trans hG1 hgw2
  have hR2 : Rd (w1.setCell ⟨g, 2, none⟩ (.slice (some ⟨w.heap.size, 0, none⟩) p p)) (some ⟨b, o, none⟩) (vs l) := by
    rcases hR with h | ⟨b', o', hA, h⟩
    · exact .inl h
    · injection hA with hA
      injection hA with hb' ho'
      subst hb' ho'
      refine .inr ⟨b, o, rfl, fun j v hj => hgw2.cell (h j v hj) (by simp; omega)⟩
  clear hR hK hG1 hgw2 q2 r2
  generalize hw2 : w1.setCell ⟨g, 2, none⟩ (.slice (some ⟨w.heap.size, 0, none⟩) p p) = w2 at *
  have q2 : w2.drew.cell? ⟨g, 2, none⟩ = some (.slice (some ⟨w.heap.size, 0, none⟩) p p) := by
    have := hK2.cell 2
    simpa using this
  replace hO2 : Own w2.drew w.heap.size 1 (some ⟨w.heap.size, 0, none⟩) p p (List.replicate p (.int .u8 0)) := hO2
  replace hR2 : Rd w2.drew (some ⟨b, o, none⟩) (vs l) := hR2
  replace hG2 := grown_trans hG2 (grown_of_below (below_drew w2) (some g))
  replace hK2 := hK2.drew
  clear hown hb hw2
  refine wp_region_still_tail 8 (by kernel_rfl) (by kernel_rfl) ?_
  simp only [List.take_succ_cons, List.take_zero, List.drop_succ_cons, List.drop_zero]
  change wpStill _ _ (World.drew w2) (fun a => wpList _ _ _ _ a (World.drew w2)) _ _
  generalize World.drew w2 = w3 at *
  repeat still_step
  refine wpStill_nil ?_
  have hl3 : (l.drop 3).length = p := by simp; omega
  have hR3 : Rd w3 (if c = 3 then some ⟨b, o, none⟩ else some ⟨b, o + 3, none⟩) (vs (l.drop 3)) := by
    split
    · exact .inl (by rw [List.eq_nil_of_length_eq_zero (show (l.drop 3).length = 0 by omega)]; rfl)
    · rw [vs_drop]; exact hR2.drop 3
  refine held_copy_all rfl (.tmp 42) (.tmp 46) 27 27 rfl w.heap.size 5 Tryd.underlying27 (by kernel_rfl) rfl rfl hO2 (by omega) (by rw [vs_length, hl3]) hR3 (vs_one _) ?_
  intro w4 hO4 hg4
  have hK4 := hK2.grown hg4 (by simp; omega)
  have hb4 : w.grownBy w4 (some g) := grown_then hG2 hg4 (by omega)
  clear hK2 hO2 hR2 hR3 q2
  go_wp2_with fail
  all_goals go_ret
  all_goals first | exact ⟨rfl, _, _, by simpa using hK4, hO4.rd, hb4⟩ | exact ⟨rfl, _, ⟨_, by simpa using hK4⟩, hO4.rd, hb4⟩
def vrMsg (l : List UInt8) : Array Value := #[.int .u8 3, .bool false, .int .u8 254, .int .u8 253, .int .u32 0, .string (S []), .string (S l), .string (S []), .slice none 0 0, .slice none 0 0, .slice none 0 0, .slice none 0 0, .slice none 0 0, .slice none 0 0, .int .u16 0, .int .u16 0, .string (S []), .string (S []), .string (S []), .int .i64 0, .int .u8 0, .int .u16 0, .string (S []), .string (S []), .slice none 0 0]
def vrMsg0 : Array Value := #[.int .u8 3, .bool false, .int .u8 0, .int .u8 0, .int .u32 0, .string (S []), .string (S []), .string (S []), .slice none 0 0, .slice none 0 0, .slice none 0 0, .slice none 0 0, .slice none 0 0, .slice none 0 0, .int .u16 0, .int .u16 0, .string (S []), .string (S []), .string (S []), .int .i64 0, .int .u8 0, .int .u16 0, .string (S []), .string (S []), .slice none 0 0]
theorem dataVr_any (g : Nat) (A1 : Option Addr) (n1 c1 : Nat) (l1 : List UInt8) (w : World) (hk : Blk w g 60 #[.int .u8 254, .int .u8 253, .slice A1 n1 c1])
    (hn1 : l1.length = n1) (hr1 : Rd w A1 (vs l1)) :
    Calls Tryd.prog 21 #[.pointer (some ⟨g, 0, none⟩)] w fun e w' => e = .returned (.agg (vrMsg l1)) ∧ Below w.heap.size w w' := by
  have hgs := hk.lt
  go_enter Tryd.func21, Tryd.ntmps21
  go_wp2_with (with_reducible refine Held.store 34 ?_)
  refine held_store_at (g := w.heap.size + 1) (by simp) (cells := vrMsg0) vrInfo rfl rfl rfl (by simp [vrMsg0, Value.oneCell']) fun w1 hm hb' hsz => ?_
  have hb := below_two (below_alloc w _) hb'
  have hM := (Blk.new w 34 _).keep hb'
  have m0 := hm.cell 2
  have m1 := hm.cell 3
  have m2 := hm.cell 6
  have f0 := hm.frozen 2
  have f1 := hm.frozen 3
  have f2 := hm.frozen 6
  simp [vrMsg0] at m0 m1 m2
  go_wp2_with fail
  have HB : Hid (∀ w', Below w.heap.size w1 w' → w'.cell? ⟨g, 0, none⟩ = some (.int .u8 254) ∧ w'.cell? ⟨g, 1, none⟩ = some (.int .u8 253) ∧ w'.cell? ⟨g, 2, none⟩ = some (.slice A1 n1 c1)
    ∧ (convert 27 9 (.slice A1 n1 c1)).run Tryd.prog w' = .ok (.string (S l1)) w') := fun w' h' => by
    have hb2 := hb.trans h'
    have hk2 := hk.keep hb2
    exact ⟨hk2.cell 0, hk2.cell 1, hk2.cell 2, run_conv_bs w' _ _ 5 Tryd.underlying27 Tryd.underlying5 Tryd.underlying9 l1 A1 n1 c1 hn1 (hr1.keep hb2)⟩
  clear hk hr1
  go_region_held3 (fun w' => w'.cell? ⟨g, 0, none⟩ = some (.int .u8 254) ∧ w'.cell? ⟨g, 1, none⟩ = some (.int .u8 253) ∧ w'.cell? ⟨g, 2, none⟩ = some (.slice A1 n1 c1)
    ∧ (convert 27 9 (.slice A1 n1 c1)).run Tryd.prog w' = .ok (.string (S l1)) w') (exact HB.out _ (by (repeat (first | assumption | exact Below.refl _ _ | refine Below.drew ?_ | refine Below.setCell ?_ (by first | omega | (simp; done) | (simp; omega)) _ | refine Below.alloc ?_ (by first | omega | (simp; done) | (simp; omega)) _)))) (fail)
  have hK := ((hm.set_ 2 (.int .u8 254)).set_ 3 (.int .u8 253)).set_ 6 (.string (S l1))
  have hb2 : Below w.heap.size w (((w1.setCell ⟨w.heap.size + 1, 2, none⟩ (.int .u8 254)).setCell ⟨w.heap.size + 1, 3, none⟩ (.int .u8 253)).setCell ⟨w.heap.size + 1, 6, none⟩ (.string (S l1))).drew := by (repeat (first | assumption | exact Below.refl _ _ | refine Below.drew ?_ | refine Below.setCell ?_ (by first | omega | (simp; done) | (simp; omega)) _ | refine Below.alloc ?_ (by first | omega | (simp; done) | (simp; omega)) _))
  have hb3 : Below (w.heap.size + 1) w1 (((w1.setCell ⟨w.heap.size + 1, 2, none⟩ (.int .u8 254)).setCell ⟨w.heap.size + 1, 3, none⟩ (.int .u8 253)).setCell ⟨w.heap.size + 1, 6, none⟩ (.string (S l1))).drew := by (repeat (first | assumption | exact Below.refl _ _ | refine Below.drew ?_ | refine Below.setCell ?_ (by first | omega | (simp; done) | (simp; omega)) _ | refine Below.alloc ?_ (by first | omega | (simp; done) | (simp; omega)) _))
  have hM2 := hM.below hb3 (by omega)
  have hK' := hK.drew
  clear hm hK m0 m1 m2 f0 f1 f2 HB hM
  go_wp2_with (with_reducible refine Held.load 34 ?_)
  refine held_load_row (cs := vrMsg l1) hK' Tryd.underlying34 vrInfo rfl ?_
  go_wp2_with (with_reducible refine Held.store 34 ?_)
  refine held_store_row (cells := vrMsg l1) hM2 vrInfo rfl rfl rfl (by simp [vrMsg, Value.oneCell']) fun w3 hk3 hg3 _ => ?_
  go_wp2_with fail
  exact bodyPost_cell rfl rfl rfl hk3 Tryd.underlying34 vrInfo ⟨rfl, hb2.grown hg3 hb2.size (fun k hk' => by simp at hk'; omega)⟩
theorem verifyRead_ok (l m : List UInt8) (p : Nat) (hp : (p : Int) < 256) (hle : (m.length : Int) = p + 3) (hl : l.length = p) (hm : m = 254 :: 253 :: UInt8.ofNat p :: l) (w : World) :
    Calls Tryd.prog 10 #[.string (S m)] w fun e w' => e = .returned (.tuple #[.agg (vrMsg l), .bool true]) ∧ Below w.heap.size w w' := by
  have hp' : (UInt8.ofNat p).toNat = p := by simp; omega
  have hd : m.drop 3 = l := by rw [hm]; rfl
  have g0 : m.getD 0 0 = 254 := by rw [hm]; rfl
  have g1 : m.getD 1 0 = 253 := by rw [hm]; rfl
  have g2 : m.getD 2 0 = UInt8.ofNat p := by rw [hm]; rfl
  have HC := Lib.hid (fun g b c w hnc x0 x1 x2 hk hr h0 h1 h2 hgb => vr_ok g b 0 m.length c m p (by omega) hnc hp hle w x0 x1 x2 hk hr rfl h0 h1 h2 hgb)
  rw [hd] at HC
  have hmx : Hid (m.length ≤ maxLen) := Lib.hid (by simp only [maxLen]; omega)
  clear hp hm
  go_enter Tryd.func10, Tryd.ntmps10
  go_wp2_with fail
  refine upon_conv_sb 9 27 5 Tryd.underlying9 Tryd.underlying27 Tryd.underlying5 m hmx.out ?_
  intro c w1 hown hb hlt
  have hk := ((Blk.new _ 60 #[.int .u8 0, .int .u8 0, .slice none 0 0])).keep hb
  have hM := ((Blk.new w 34 _).alloc _).keep hb
  have hr := hown.rd
  have hb1 : Below w.heap.size w w1 := below_two (by (repeat (first | assumption | exact Below.refl _ _ | refine Below.drew ?_ | refine Below.setCell ?_ (by first | omega | (simp; done) | (simp; omega)) _ | refine Below.alloc ?_ (by first | omega | (simp; done) | (simp; omega)) _))) hb
  have hlc := hown.2.1
  clear hown
  have h0 := hr.byte 0 (by omega)
  have h1 := hr.byte 1 (by omega)
  have h2 := hr.byte 2 (by omega)
  rw [g0] at h0
  rw [g1] at h1
  rw [g2, hp'] at h2
  simp only [World.size_alloc] at hk hM hr h0 h1 h2 hlt
  clear hb g0 g1 g2 hp'
  go_wp2_with fail
  refine (HC.out (w.heap.size + 1) _ c w1 (by omega) _ _ _ hk hr (by simpa using h0) (by simpa using h1) (by simpa using h2) (by omega)).mono ?_
  rintro e w2 ⟨rfl, A', c', hk2, hr2, hg2⟩
  have hM2 := hM.grown hg2 (by simp)
  have hb2 := hb1.grown hg2 hb1.size (fun k hk => by simp at hk; omega)
  clear hk hr hM hb1 hg2 h0 h1 h2 HC
  go_wp2_with fail
  refine (dataVr_any (w.heap.size + 1) A' p c' l w2 hk2 hl hr2).mono ?_
  rintro e w3 ⟨rfl, hb3⟩
  have hM3 := hM2.keep hb3
  have hb4 := below_two hb2 hb3
  clear hM2 hk2 hr2 hb2 hb3
  go_wp2_with (with_reducible refine Held.store 34 ?_)
  refine held_store_row (cells := vrMsg l) hM3 vrInfo rfl rfl rfl (by simp [vrMsg, Value.oneCell']) fun w5 hk5 hg5 _ => ?_
  go_wp2_with fail
  exact bodyPost_cell2 rfl rfl rfl hk5 Tryd.underlying34 vrInfo ⟨rfl, hb4.grown hg5 hb4.size (fun k hk' => by simp at hk'; omega)⟩
end Go.Proofs.YtnjomlcenolkdaaDoor
