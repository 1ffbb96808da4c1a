/- Walks: SRTP profiles, read further. -/
import Derived.Test.YtkjpkenhpmjikaaDoorSrtp
import Derived.IntWalk
namespace Go.Proofs.YtkjpkenhpmjikaaDoor
open Go.RowKit Go.Cv Go.Maps
set_option maxRecDepth 100000
set_option linter.unusedVariables false
theorem profileInfo : (Tryd.prog.info? 165).map (fun i => (i.zero, i.size, i.bytes)) = some (some (.int .u16 0), 1, 2) := by kernel_rfl
set_option maxHeartbeats 1000000 in
theorem srtp_no3 (g b c : Nat) (l : List UInt8) (p q u v : UInt8) (r : List UInt8) (hl : l = 0 :: 14 :: p :: q :: u :: v :: r) (k : Nat) (huv : u.toNat * 256 + v.toNat = k * 2) (hk1 : k ≤ 1000) (n : Nat) (hn : l.length = n) (hn7 : 7 ≤ n) (hn9 : n ≤ 3000) (N : Nat) (hpq : p.toNat * 256 + q.toNat = N) (hs7 : 2 * k + 7 ≤ n) (y : UInt8) (hy : l.getD (6 + 2 * k) 0 = y) (Y : Nat) (hY : y.toNat = Y) (hend : n ≤ 6 + 2 * k + Y) (x0 x1 : Value) (ad : Addr) (w : World) (hk : Blk w g 79 #[x0, x1]) (hr : Rd w (some ⟨b, 0, none⟩) (vs l)) (hlc : l.length ≤ c) (hg : w.cell? ⟨3, 0, none⟩ = some (.iface 210 (.pointer (some ad)))) :
    Calls Tryd.prog 43 #[.pointer (some ⟨g, 0, none⟩), .slice (some ⟨b, 0, none⟩) l.length c] w fun e w' =>
      e = .returned (.iface 210 (.pointer (some ad))) ∧ Below w.heap.size w w' := by
  have HG : Hid (∀ w', Below w.heap.size w w' → w'.cell? ⟨3, 0, none⟩ = some (.iface 210 (.pointer (some ad)))) := fun w' h => keep_of_below h _ _ hg
  have hy8 := y.toNat_lt
  rw [hY] at hy8
  have HK0 : Hid (∀ w', Below w.heap.size w w' → w'.cell? ⟨g, 0, none⟩ = some (x0) ∧ w'.cell? ⟨g, 1, none⟩ = some (x1)) := fun w' h => ⟨by simpa using (hk.keep h).cell 0, by simpa using (hk.keep h).cell 1⟩
  have HB : Hid (∀ i, i < n → ∀ w', Below w.heap.size w w' → w'.cell? ⟨b, i, none⟩ = some (.int .u8 (l.getD i 0).toNat)) := fun i hi w' h => by
    have := (hr.keep h).byte i (by omega)
    simpa using this
  have hp8 := p.toNat_lt
  have hq8 := q.toNat_lt
  have hu8 := u.toNat_lt
  have hv8 := v.toNat_lt
  have hC4 : Hid (∀ w', Below w.heap.size w w' → Calls Tryd.prog 82 #[.agg #[], .slice (some ⟨b, 4, none⟩) (n - 4) (c - 4)] w' fun e w'' => e = .returned (.int .u16 ((k : Int) * 2)) ∧ Below w'.heap.size w' w'') := fun w' h => by
    have := u16_any b 4 (n - 4) (c - 4) u.toNat v.toNat (by omega) (by omega) (by omega) w' (by have := HB.out 4 (by omega) w' h; rw [hl] at this; exact this) (by have := HB.out 5 (by omega) w' h; rw [hl] at this; exact this)
    rw [huv] at this
    simpa using this
  have hC0 : Hid (∀ w', Below w.heap.size w w' → Calls Tryd.prog 82 #[.agg #[], .slice (some ⟨b, 0, none⟩) n c] w' fun e w'' => e = .returned (.int .u16 14) ∧ Below w'.heap.size w' w'') := fun w' h =>
    u16_any b 0 n c 0 14 (by omega) (by omega) (by omega) w' (by have := HB.out 0 (by omega) w' h; rw [hl] at this; exact this) (by have := HB.out 1 (by omega) w' h; rw [hl] at this; exact this)
  have hC2 : Hid (∀ w', Below w.heap.size w w' → Calls Tryd.prog 82 #[.agg #[], .slice (some ⟨b, 2, none⟩) 2 (c - 2)] w' fun e w'' => e = .returned (.int .u16 (N : Int)) ∧ Below w'.heap.size w' w'') := fun w' h => by
    have := u16_any b 2 2 (c - 2) p.toNat q.toNat (by omega) (by omega) (by omega) w' (by have := HB.out 2 (by omega) w' h; rw [hl] at this; exact this) (by have := HB.out 3 (by omega) w' h; rw [hl] at this; exact this)
    rw [hpq] at this
    exact this
  obtain ⟨s, hs⟩ : ∃ s : Nat, 6 + 2 * k = s := ⟨_, rfl⟩
  have i1 : decide ((n : Int) ≤ 6) = false := by simp; omega
  have i2 : (7 : Int) ≤ n := by omega
  have i3 : (7 : Int) ≤ c := by omega
  have i4 : (n : Int) ≤ c := by omega
  have k0 : (0 : Int) ≤ k := by omega
  have k5 : (k : Int) ≤ 1000 := by omega
  have k6 : (n : Int) ≤ 3000 := by omega
  have k1 : (4 : Int) ≤ c := by omega
  have k4 : (4 : Int) ≤ n := by omega
  have k2 : ¬ c = 2 := by omega
  have k3 : ¬ c = 4 := by omega
  have t4 : (k : Int) * 2 / 2 = k := by omega
  have s3 : (6 + (k : Int) * 2) = (s : Int) := by omega
  have s9 : (s : Int) ≤ 3000 := by omega
  have HS : Hid (∀ w', Below w.heap.size w w' → w'.cell? ⟨b, s, none⟩ = some (.int .u8 (Y : Int))) := fun w' h => by
    have := HB.out s (by omega) w' h
    rw [← hs, hy, hY] at this
    rwa [hs] at this
  have hN16 := pair_lt p q N hpq
  have n0 : (0 : Int) ≤ N := by omega
  have n1 : (N : Int) ≤ 100000 := by omega
  have n2 : (Y : Int) < 256 := by omega
  have s4 : (s : Int) < n := by omega
  have t1 : decide ((n : Int) < (s : Int) + 1) = false := by simp; omega
  have t5 : decide ((n : Int) ≤ (s : Int) + Y) = true := by simp; omega
  rw [hn]
  clear hl huv hk hr hlc hp8 hq8 hu8 hv8 HB hn hg hs hs7 hk1 hn7 hn9 hpq hy hY hend hN16 hy8
  go_enter Tryd.func43, Tryd.ntmps43
  go_wp2_with fail
  go_region_held3 (fun w' => w'.cell? ⟨g, 0, none⟩ = some (x0) ∧ w'.cell? ⟨g, 1, none⟩ = some (x1)) (exact HK0.out _ (by first | exact below_drew w | exact (below_drew w).trans (by assumption) | exact below_two ((below_drew w).trans (by assumption)) (by assumption))) (first
    | (go_at_call 82; refine (hC0.out _ (by first | exact below_drew w | exact (below_drew w).trans (by assumption))).mono ?_; rintro e w6 ⟨rfl, hb6⟩)
    | (go_at_call 85; refine (srtpType _ _ _).mono ?_; rintro e w7 ⟨rfl, hb7⟩))
  all_goals
    first | (have hb2 := below_two ((below_drew w).trans hb6) hb7) | (have hb2 := below_two ((below_drew w).trans hb7) hb6)
    clear hb6 hb7 hC0
    rename World => wS
    go_wp2_with fail
    have hb3 : Below w.heap.size w (World.drew wS) := hb2.drew
    clear hb2
    refine wp_region_still_tail 3 (by kernel_rfl) (by kernel_rfl) ?_
    simp only [List.take_succ_cons, List.take_zero, List.drop_succ_cons, List.drop_zero]
    change wpStill _ _ (World.drew wS) (fun a => wpList _ _ _ _ a (World.drew wS)) _ _
    generalize World.drew wS = w3 at *
    repeat still_step
    refine wpStill_nil ?_
    go_wp2_with fail
    refine (hC4.out w3 hb3).mono ?_
    rintro e w4 ⟨rfl, hb4⟩
    have hb5 := below_two hb3 hb4
    clear hb3 hb4 hC4
    go_wp2_with fail
    have hb6 : Below w.heap.size w w4.drew := hb5.drew
    clear hb5
    refine wp_region_still_tail 3 (by kernel_rfl) (by kernel_rfl) ?_
    simp only [List.take_succ_cons, List.take_zero, List.drop_succ_cons, List.drop_zero]
    change wpStill _ _ (World.drew w4) (fun a => wpList _ _ _ _ a (World.drew w4)) _ _
    generalize World.drew w4 = w6 at *
    repeat still_step
    refine wpStill_nil ?_
    go_wp2_with fail
    refine (hC2.out w6 hb6).mono ?_
    rintro e w8 ⟨rfl, hb8⟩
    have hb9 := below_two hb6 hb8
    have hS := HS.out _ hb9
    clear hb6 hb8 hC2
    have hgF := HG.out _ hb9
    go_wp2_with fail
    go_ret
    exact ⟨rfl, hb9⟩
end Go.Proofs.YtkjpkenhpmjikaaDoor
