/- Walks: a signature scheme's number, read. -/
import Derived.Test.YtmappdbodnlepaaDoorAlg
import Derived.Outline
namespace Go.Proofs.YtmappdbodnlepaaDoor
open Go.RowKit Go.Cv Go.Maps
set_option maxRecDepth 100000
set_option linter.unusedVariables false
theorem sig_has (s : Nat) (hs : (s = 1 ∨ s = 3 ∨ s = 7) ∨ (s = 2052 ∨ s = 2053 ∨ s = 2054 ∨ s = 2057 ∨ s = 2058 ∨ s = 2059)) : Maps.has sigD (.int .u16 s) = true ∧ (Lit.int .u16 s).wf = true := by
  rcases hs with (rfl | rfl | rfl) | (rfl | rfl | rfl | rfl | rfl | rfl) <;> exact ⟨by kernel_rfl, by decide⟩
theorem hsh_has (h : Nat) (hh : h = 2 ∨ h = 3 ∨ h = 4 ∨ h = 5 ∨ h = 6 ∨ h = 8) : Maps.has hshD (.int .u16 h) = true ∧ (Lit.int .u16 h).wf = true := by
  rcases hh with rfl | rfl | rfl | rfl | rfl | rfl <;> exact ⟨by kernel_rfl, by decide⟩
theorem and255 (h s : Nat) (h8 : h ≤ 8) (s7 : s ≤ 7) : bits BinOp.and IntKind.u16 ((h * 256 + s : Nat) : Int) 255 = (s : Int) := by
  obtain rfl | rfl | rfl | rfl | rfl | rfl | rfl | rfl | rfl : h = 0 ∨ h = 1 ∨ h = 2 ∨ h = 3 ∨ h = 4 ∨ h = 5 ∨ h = 6 ∨ h = 7 ∨ h = 8 := by omega
  all_goals
    obtain rfl | rfl | rfl | rfl | rfl | rfl | rfl | rfl : s = 0 ∨ s = 1 ∨ s = 2 ∨ s = 3 ∨ s = 4 ∨ s = 5 ∨ s = 6 ∨ s = 7 := by omega
    all_goals decide
set_option maxHeartbeats 4000000 in
theorem algUnm_plain (a h s : Nat) (ok : OkP h s) (hs : s = 1 ∨ s = 3 ∨ s = 7) (v0 v1 : Value) (w : World) (hk : Blk w a 106 #[v0, v1]) :
    Calls Tryd.prog 52 #[.pointer (some ⟨a, 0, none⟩), .int .u16 (code h s : Nat)] w fun e w' =>
      e = .returned .nilIface ∧ Blk w' a 106 #[.int .u16 h, .int .u16 s] ∧ Tch [a] w w' := by
  have has := hk.lt
  have hh : h = 2 ∨ h = 3 ∨ h = 4 ∨ h = 5 ∨ h = 6 ∨ h = 8 := by unfold OkP pairsOK at ok; simp at ok; omega
  have hs2 : (s = 1 ∨ s = 3 ∨ s = 7) ∨ (s = 2052 ∨ s = 2053 ∨ s = 2054 ∨ s = 2057 ∨ s = 2058 ∨ s = 2059) := by rcases ok.split with h | h <;> simp [h.1]
  have HS := Lib.hid (sig_has s hs2)
  have HH := Lib.hid (hsh_has h hh)
  have k0 := hk.cell 0
  have k1 := hk.cell 1
  have f0 := hk.frozen 0
  have f1 := hk.frozen 1
  simp at k0 k1
  have HK0 := Lib.hid (show Blk ((w.setCell ⟨a, 1, none⟩ (.int .u16 s)).setCell ⟨a, 0, none⟩ (.int .u16 h)) a 106 #[.int .u16 h, .int .u16 s] from by simpa using (hk.set_ 1 (.int .u16 s)).set_ 0 (.int .u16 h))
  have HT0 := Lib.hid (show Tch [a] w ((w.setCell ⟨a, 1, none⟩ (.int .u16 s)).setCell ⟨a, 0, none⟩ (.int .u16 h)) from (Tch.set _ _ _ _).trans (Tch.set _ _ _ _))
  have i0 : ((h : Int) == 0) = false := by simp; omega
  have hc : code h s = h * 256 + s := by unfold code; rw [if_neg (by omega)]
  have HP := Lib.hid (fun w => isPss_no (code h s) (by rw [hc]; unfold OkP pairsOK at ok; simp at ok; omega) w)
  have eA : bits BinOp.and IntKind.u16 ((code h s : Nat) : Int) 255 = (s : Int) := by rw [hc]; exact and255 h s (by omega) (by omega)
  have eB : ((code h s : Nat) : Int) / 256 = (h : Int) := by rw [hc]; omega
  clear hh hs2 hk hs ok hc
  go_enter Tryd.func52, Tryd.ntmps52
  go_wp2_with fail
  refine (HP.out _).mono ?_
  rintro e w1 ⟨rfl, rfl⟩
  go_wp2_with fail
  have hk2 := HK0.out
  have HT2 := Lib.hid HT0.out
  clear HT0 HK0 k0 k1 f0 f1
  generalize (w.setCell ⟨a, 1, none⟩ (.int .u16 (s : Int))).setCell ⟨a, 0, none⟩ (.int .u16 (h : Int)) = w2 at *
  have HBA : Hid (∀ w', Below w2.heap.size w2 w' → w'.cell? ⟨a, 0, none⟩ = some (.int .u16 h) ∧ w'.cell? ⟨a, 1, none⟩ = some (.int .u16 s)) := fun w' h => ⟨by simpa using (hk2.keep h).cell 0, by simpa using (hk2.keep h).cell 1⟩
  go_region_held3 (fun w' => w'.cell? ⟨a, 0, none⟩ = some (.int .u16 h) ∧ w'.cell? ⟨a, 1, none⟩ = some (.int .u16 s)) ((refine HBA.out _ ?_; first | ((repeat (first | assumption | exact Below.refl _ _ | refine Below.drew ?_ | refine Below.setCell ?_ (by first | omega | (simp; done) | (simp; omega)) _ | refine Below.alloc ?_ (by first | omega | (simp; done) | (simp; omega)) _)); done) | exact below_two (below_drew _) (by assumption) | (refine below_two ?_ (by assumption); (repeat (first | assumption | exact Below.refl _ _ | refine Below.drew ?_ | refine Below.setCell ?_ (by first | omega | (simp; done) | (simp; omega)) _ | refine Below.alloc ?_ (by first | omega | (simp; done) | (simp; omega)) _)); done) | (refine below_two (below_two ?_ (by assumption)) (below_alloc _ _); (repeat (first | assumption | exact Below.refl _ _ | refine Below.drew ?_ | refine Below.setCell ?_ (by first | omega | (simp; done) | (simp; omega)) _ | refine Below.alloc ?_ (by first | omega | (simp; done) | (simp; omega)) _)); done)))
    (first | (go_at_call 69; refine (sig_any _).mono ?_; rintro e w3 ⟨mbA, rfl, hmap, hbA⟩; have hlk := lookup_unit_run sigKeyed Tryd.underlying139 (unitZero _) hmap (keyOf_int_mk Tryd.underlying85 HS.out.2) HS.out.1; have hlk2 := fun (ob : Obj) => lookup_unit_run sigKeyed Tryd.underlying139 (unitZero _) (hmap.alloc ob) (keyOf_int_mk Tryd.underlying85 HS.out.2) HS.out.1))
  all_goals
    first
      | (have hbX : Below w2.heap.size w2 (w3.alloc (.cells #[] 112)) := by (refine below_two (below_two ?_ hbA) (below_alloc _ _); (repeat (first | assumption | exact Below.refl _ _ | refine Below.drew ?_ | refine Below.setCell ?_ (by first | omega | (simp; done) | (simp; omega)) _ | refine Below.alloc ?_ (by first | omega | (simp; done) | (simp; omega)) _)))
         go_wp2_with fail
         change Code.wp _ _ _ _ (World.alloc w3 _)
         generalize w3.alloc (.cells #[] 112) = wX at *)
      | (have hbX : Below w2.heap.size w2 w3 := by (refine below_two ?_ hbA; (repeat (first | assumption | exact Below.refl _ _ | refine Below.drew ?_ | refine Below.setCell ?_ (by first | omega | (simp; done) | (simp; omega)) _ | refine Below.alloc ?_ (by first | omega | (simp; done) | (simp; omega)) _)))
         go_wp2_with fail
         rename World => wX)
    have hkX := hk2.keep hbX
    have HTX := Lib.hid (HT2.out.then (Tch.below hbX []) (by simp))
    clear hmap hlk hlk2 hbA hbX hk2 HT2
    have HBB : Hid (∀ w', Below wX.heap.size wX w' → w'.cell? ⟨a, 0, none⟩ = some (.int .u16 h) ∧ w'.cell? ⟨a, 1, none⟩ = some (.int .u16 s)) := fun w' h => ⟨by simpa using (hkX.keep h).cell 0, by simpa using (hkX.keep h).cell 1⟩
    go_region_held3 (fun w' => w'.cell? ⟨a, 0, none⟩ = some (.int .u16 h) ∧ w'.cell? ⟨a, 1, none⟩ = some (.int .u16 s)) ((refine HBB.out _ ?_; first | ((repeat (first | assumption | exact Below.refl _ _ | refine Below.drew ?_ | refine Below.setCell ?_ (by first | omega | (simp; done) | (simp; omega)) _ | refine Below.alloc ?_ (by first | omega | (simp; done) | (simp; omega)) _)); done) | exact below_two (below_drew _) (by assumption) | (refine below_two ?_ (by assumption); (repeat (first | assumption | exact Below.refl _ _ | refine Below.drew ?_ | refine Below.setCell ?_ (by first | omega | (simp; done) | (simp; omega)) _ | refine Below.alloc ?_ (by first | omega | (simp; done) | (simp; omega)) _)); done) | (refine below_two (below_two ?_ (by assumption)) (below_alloc _ _); (repeat (first | assumption | exact Below.refl _ _ | refine Below.drew ?_ | refine Below.setCell ?_ (by first | omega | (simp; done) | (simp; omega)) _ | refine Below.alloc ?_ (by first | omega | (simp; done) | (simp; omega)) _)); done)))
      (first | (go_at_call 70; refine (hsh_any _).mono ?_; rintro e w5 ⟨mbB, rfl, hmap, hbB⟩; have hlk := lookup_unit_run hshKeyed Tryd.underlying141 (unitZero _) hmap (keyOf_int_mk Tryd.underlying84 HH.out.2) HH.out.1; have hlk2 := fun (ob : Obj) => lookup_unit_run hshKeyed Tryd.underlying141 (unitZero _) (hmap.alloc ob) (keyOf_int_mk Tryd.underlying84 HH.out.2) HH.out.1))
    all_goals
      first
        | (have hbY : Below wX.heap.size wX (w5.alloc (.cells #[] 112)) := by (refine below_two (below_two ?_ hbB) (below_alloc _ _); (repeat (first | assumption | exact Below.refl _ _ | refine Below.drew ?_ | refine Below.setCell ?_ (by first | omega | (simp; done) | (simp; omega)) _ | refine Below.alloc ?_ (by first | omega | (simp; done) | (simp; omega)) _)))
           have hkY := hkX.keep hbY
           have y0 := hkY.cell 0
           simp at y0
           go_wp2_with fail
           go_ret
           exact ⟨rfl, hkY, HTX.out.then (Tch.below hbY []) (by simp)⟩)
        | (have hbY : Below wX.heap.size wX w5 := by (refine below_two ?_ hbB; (repeat (first | assumption | exact Below.refl _ _ | refine Below.drew ?_ | refine Below.setCell ?_ (by first | omega | (simp; done) | (simp; omega)) _ | refine Below.alloc ?_ (by first | omega | (simp; done) | (simp; omega)) _)))
           have hkY := hkX.keep hbY
           have y0 := hkY.cell 0
           simp at y0
           go_wp2_with fail
           go_ret
           exact ⟨rfl, hkY, HTX.out.then (Tch.below hbY []) (by simp)⟩)
set_option maxHeartbeats 4000000 in
theorem algUnm_pss (a h s : Nat) (ok : OkP h s) (hs : s = 2052 ∨ s = 2053 ∨ s = 2054 ∨ s = 2057 ∨ s = 2058 ∨ s = 2059) (v0 v1 : Value) (w : World) (hk : Blk w a 106 #[v0, v1]) :
    Calls Tryd.prog 52 #[.pointer (some ⟨a, 0, none⟩), .int .u16 (code h s : Nat)] w fun e w' =>
      e = .returned .nilIface ∧ Blk w' a 106 #[.int .u16 h, .int .u16 s] ∧ Tch [a] w w' := by
  have has := hk.lt
  have hh : h = 2 ∨ h = 3 ∨ h = 4 ∨ h = 5 ∨ h = 6 ∨ h = 8 := by unfold OkP pairsOK at ok; simp at ok; omega
  have hs2 : (s = 1 ∨ s = 3 ∨ s = 7) ∨ (s = 2052 ∨ s = 2053 ∨ s = 2054 ∨ s = 2057 ∨ s = 2058 ∨ s = 2059) := by rcases ok.split with h | h <;> simp [h.1]
  have HS := Lib.hid (sig_has s hs2)
  have HH := Lib.hid (hsh_has h hh)
  have k0 := hk.cell 0
  have k1 := hk.cell 1
  have f0 := hk.frozen 0
  have f1 := hk.frozen 1
  simp at k0 k1
  have HK0 := Lib.hid (show Blk ((w.setCell ⟨a, 1, none⟩ (.int .u16 s)).setCell ⟨a, 0, none⟩ (.int .u16 h)) a 106 #[.int .u16 h, .int .u16 s] from by simpa using (hk.set_ 1 (.int .u16 s)).set_ 0 (.int .u16 h))
  have HT0 := Lib.hid (show Tch [a] w ((w.setCell ⟨a, 1, none⟩ (.int .u16 s)).setCell ⟨a, 0, none⟩ (.int .u16 h)) from (Tch.set _ _ _ _).trans (Tch.set _ _ _ _))
  have i0 : ((h : Int) == 0) = false := by simp; omega
  have hc : code h s = s := by unfold code; rw [if_pos (by omega)]
  have hq : pssHash s = h := by
    unfold OkP pairsOK at ok
    simp at ok
    unfold pssHash
    split <;> omega
  have HP := Lib.hid (fun w => isPss_yes s hs w)
  have HE := Lib.hid (fun w => extract_ok s hs w)
  rw [hq] at HE
  rw [hc]
  clear hh hs2 hk hs ok hc hq
  go_enter Tryd.func52, Tryd.ntmps52
  go_wp2_with fail
  refine (HP.out _).mono ?_
  rintro e w1 ⟨rfl, rfl⟩
  go_wp2_with fail
  refine (HE.out _).mono ?_
  rintro e w1 ⟨rfl, rfl⟩
  go_wp2_with fail
  have hk2 := HK0.out
  have HT2 := Lib.hid HT0.out
  clear HT0 HK0 k0 k1 f0 f1
  generalize (w.setCell ⟨a, 1, none⟩ (.int .u16 (s : Int))).setCell ⟨a, 0, none⟩ (.int .u16 (h : Int)) = w2 at *
  have HBA : Hid (∀ w', Below w2.heap.size w2 w' → w'.cell? ⟨a, 0, none⟩ = some (.int .u16 h) ∧ w'.cell? ⟨a, 1, none⟩ = some (.int .u16 s)) := fun w' h => ⟨by simpa using (hk2.keep h).cell 0, by simpa using (hk2.keep h).cell 1⟩
  go_region_held3 (fun w' => w'.cell? ⟨a, 0, none⟩ = some (.int .u16 h) ∧ w'.cell? ⟨a, 1, none⟩ = some (.int .u16 s)) ((refine HBA.out _ ?_; first | ((repeat (first | assumption | exact Below.refl _ _ | refine Below.drew ?_ | refine Below.setCell ?_ (by first | omega | (simp; done) | (simp; omega)) _ | refine Below.alloc ?_ (by first | omega | (simp; done) | (simp; omega)) _)); done) | exact below_two (below_drew _) (by assumption) | (refine below_two ?_ (by assumption); (repeat (first | assumption | exact Below.refl _ _ | refine Below.drew ?_ | refine Below.setCell ?_ (by first | omega | (simp; done) | (simp; omega)) _ | refine Below.alloc ?_ (by first | omega | (simp; done) | (simp; omega)) _)); done) | (refine below_two (below_two ?_ (by assumption)) (below_alloc _ _); (repeat (first | assumption | exact Below.refl _ _ | refine Below.drew ?_ | refine Below.setCell ?_ (by first | omega | (simp; done) | (simp; omega)) _ | refine Below.alloc ?_ (by first | omega | (simp; done) | (simp; omega)) _)); done)))
    (first | (go_at_call 69; refine (sig_any _).mono ?_; rintro e w3 ⟨mbA, rfl, hmap, hbA⟩; have hlk := lookup_unit_run sigKeyed Tryd.underlying139 (unitZero _) hmap (keyOf_int_mk Tryd.underlying85 HS.out.2) HS.out.1; have hlk2 := fun (ob : Obj) => lookup_unit_run sigKeyed Tryd.underlying139 (unitZero _) (hmap.alloc ob) (keyOf_int_mk Tryd.underlying85 HS.out.2) HS.out.1))
  all_goals
    first
      | (have hbX : Below w2.heap.size w2 (w3.alloc (.cells #[] 112)) := by (refine below_two (below_two ?_ hbA) (below_alloc _ _); (repeat (first | assumption | exact Below.refl _ _ | refine Below.drew ?_ | refine Below.setCell ?_ (by first | omega | (simp; done) | (simp; omega)) _ | refine Below.alloc ?_ (by first | omega | (simp; done) | (simp; omega)) _)))
         go_wp2_with fail
         change Code.wp _ _ _ _ (World.alloc w3 _)
         generalize w3.alloc (.cells #[] 112) = wX at *)
      | (have hbX : Below w2.heap.size w2 w3 := by (refine below_two ?_ hbA; (repeat (first | assumption | exact Below.refl _ _ | refine Below.drew ?_ | refine Below.setCell ?_ (by first | omega | (simp; done) | (simp; omega)) _ | refine Below.alloc ?_ (by first | omega | (simp; done) | (simp; omega)) _)))
         go_wp2_with fail
         rename World => wX)
    have hkX := hk2.keep hbX
    have HTX := Lib.hid (HT2.out.then (Tch.below hbX []) (by simp))
    clear hmap hlk hlk2 hbA hbX hk2 HT2
    have HBB : Hid (∀ w', Below wX.heap.size wX w' → w'.cell? ⟨a, 0, none⟩ = some (.int .u16 h) ∧ w'.cell? ⟨a, 1, none⟩ = some (.int .u16 s)) := fun w' h => ⟨by simpa using (hkX.keep h).cell 0, by simpa using (hkX.keep h).cell 1⟩
    go_region_held3 (fun w' => w'.cell? ⟨a, 0, none⟩ = some (.int .u16 h) ∧ w'.cell? ⟨a, 1, none⟩ = some (.int .u16 s)) ((refine HBB.out _ ?_; first | ((repeat (first | assumption | exact Below.refl _ _ | refine Below.drew ?_ | refine Below.setCell ?_ (by first | omega | (simp; done) | (simp; omega)) _ | refine Below.alloc ?_ (by first | omega | (simp; done) | (simp; omega)) _)); done) | exact below_two (below_drew _) (by assumption) | (refine below_two ?_ (by assumption); (repeat (first | assumption | exact Below.refl _ _ | refine Below.drew ?_ | refine Below.setCell ?_ (by first | omega | (simp; done) | (simp; omega)) _ | refine Below.alloc ?_ (by first | omega | (simp; done) | (simp; omega)) _)); done) | (refine below_two (below_two ?_ (by assumption)) (below_alloc _ _); (repeat (first | assumption | exact Below.refl _ _ | refine Below.drew ?_ | refine Below.setCell ?_ (by first | omega | (simp; done) | (simp; omega)) _ | refine Below.alloc ?_ (by first | omega | (simp; done) | (simp; omega)) _)); done)))
      (first | (go_at_call 70; refine (hsh_any _).mono ?_; rintro e w5 ⟨mbB, rfl, hmap, hbB⟩; have hlk := lookup_unit_run hshKeyed Tryd.underlying141 (unitZero _) hmap (keyOf_int_mk Tryd.underlying84 HH.out.2) HH.out.1; have hlk2 := fun (ob : Obj) => lookup_unit_run hshKeyed Tryd.underlying141 (unitZero _) (hmap.alloc ob) (keyOf_int_mk Tryd.underlying84 HH.out.2) HH.out.1))
    all_goals
      first
        | (have hbY : Below wX.heap.size wX (w5.alloc (.cells #[] 112)) := by (refine below_two (below_two ?_ hbB) (below_alloc _ _); (repeat (first | assumption | exact Below.refl _ _ | refine Below.drew ?_ | refine Below.setCell ?_ (by first | omega | (simp; done) | (simp; omega)) _ | refine Below.alloc ?_ (by first | omega | (simp; done) | (simp; omega)) _)))
           have hkY := hkX.keep hbY
           have y0 := hkY.cell 0
           simp at y0
           go_wp2_with fail
           go_ret
           exact ⟨rfl, hkY, HTX.out.then (Tch.below hbY []) (by simp)⟩)
        | (have hbY : Below wX.heap.size wX w5 := by (refine below_two ?_ hbB; (repeat (first | assumption | exact Below.refl _ _ | refine Below.drew ?_ | refine Below.setCell ?_ (by first | omega | (simp; done) | (simp; omega)) _ | refine Below.alloc ?_ (by first | omega | (simp; done) | (simp; omega)) _)))
           have hkY := hkX.keep hbY
           have y0 := hkY.cell 0
           simp at y0
           go_wp2_with fail
           go_ret
           exact ⟨rfl, hkY, HTX.out.then (Tch.below hbY []) (by simp)⟩)
theorem algUnm_ok (a h s : Nat) (ok : OkP h s) (v0 v1 : Value) (w : World) (hk : Blk w a 106 #[v0, v1]) :
    Calls Tryd.prog 52 #[.pointer (some ⟨a, 0, none⟩), .int .u16 (code h s : Nat)] w fun e w' =>
      e = .returned .nilIface ∧ Blk w' a 106 #[.int .u16 h, .int .u16 s] ∧ Tch [a] w w' := by
  rcases ok.split with ⟨hs, _⟩ | ⟨hs, _⟩
  · exact algUnm_plain a h s ok hs v0 v1 w hk
  · exact algUnm_pss a h s ok hs v0 v1 w hk
end Go.Proofs.YtmappdbodnlepaaDoor
