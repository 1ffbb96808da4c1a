/- Walks: a list of groups, read. -/
import Derived.Test.YtkjpkenhpmjikaaDoorCurves
import Derived.Test.YtkjpkenhpmjikaaDoorNums
import Derived.Test.YtkjpkenhpmjikaaDoorU16
import Derived.Outline
namespace Go.Proofs.YtkjpkenhpmjikaaDoor
open Go.RowKit Go.Cv Go.Maps
set_option maxRecDepth 100000
set_option linter.unusedVariables false
theorem wrap_half (M : Nat) (h : M < 65536) : IntKind.u16.wrap ((M : Int) / 2) = ((M / 2 : Nat) : Int) := by
  have e : IntKind.u16.wrap ((M : Int) / 2) = ((M : Int) / 2) % 65536 := by simp [IntKind.wrap, IntKind.bits, IntKind.signed]
  rw [e]; omega
theorem wrap64_nat (n : Nat) (h : n < 4294967296) : wrap64 (n : Int) = n := by unfold wrap64; omega
theorem wrap64_sub (n k : Nat) (h : n < 4294967296) (hk : k < 4294967296) : wrap64 ((n : Int) - k) = (n : Int) - k := by unfold wrap64; omega
theorem pair_lt (p q : UInt8) (N : Nat) (h : p.toNat * 256 + q.toNat = N) : N < 65536 := by
  have := p.toNat_lt
  have := q.toNat_lt
  omega
theorem half_lt {M h : Nat} (hM : M < 65536) (hh : M / 2 = h) : h < 65536 := by omega
theorem big_lt {n k : Nat} (h : n < k) (hk : k ≤ 4294967296) : n < 4294967296 := Nat.lt_of_lt_of_le h hk
theorem int_big {n : Nat} (h : (n : Int) ≤ 3000000000) : n < 4294967296 := by omega
theorem groupsType (v : Value) (w : World) :
    Calls Tryd.prog 83 #[.agg #[v]] w fun e w' => e = .returned (.int .u16 10) ∧ Below w.heap.size w w' := by
  go_enter Tryd.func83, Tryd.ntmps83
  go_wp2_with fail
  go_ret
  exact ⟨rfl, below_alloc _ _⟩
theorem groups_no1 (g b c : Nat) (l : List UInt8) (hl : l.length < 6) (ad : Addr) (w : World) (hg : w.cell? ⟨0, 0, none⟩ = some (.iface 210 (.pointer (some ad)))) :
    Calls Tryd.prog 41 #[.pointer (some ⟨g, 0, none⟩), .slice (some ⟨b, 0, none⟩) l.length c] w fun e w' =>
      e = .returned (.iface 210 (.pointer (some ad))) ∧ Below w.heap.size w w' := by
  have h1 : decide ((l.length : Int) < 6) = true := by simp; omega
  clear hl
  go_enter Tryd.func41, Tryd.ntmps41
  go_wp2_with fail
  go_ret
  exact ⟨rfl, Below.refl _ _⟩
set_option maxHeartbeats 1000000 in
theorem groups_no2 (g b c : Nat) (l r : List UInt8) (p q u v : UInt8) (hl : l = 0 :: 10 :: p :: q :: u :: v :: r) (N : Nat) (hpq : p.toNat * 256 + q.toNat = N) (hN : r.length + 2 < N) (hm : (l.length : Int) ≤ 3000000000) (x0 : Value) (ad : Addr) (w : World)
    (hk : Blk w g 71 #[x0]) (hr : Rd w (some ⟨b, 0, none⟩) (vs l)) (hlc : l.length ≤ c)
    (hg : w.cell? ⟨3, 0, none⟩ = some (.iface 210 (.pointer (some ad)))) :
    Calls Tryd.prog 41 #[.pointer (some ⟨g, 0, none⟩), .slice (some ⟨b, 0, none⟩) l.length c] w fun e w' =>
      e = .returned (.iface 210 (.pointer (some ad))) ∧ Below w.heap.size w w' := by
  have hll : l.length = r.length + 6 := by rw [hl]; simp
  have HR : Hid (∀ w', Below w.heap.size w w' → Rd w' (some ⟨b, 0, none⟩) (vs l)) := fun w' h => hr.keep h
  have HK : Hid (∀ w', Below w.heap.size w w' → Blk w' g 71 #[x0]) := fun w' h => hk.keep h
  have HG : Hid (∀ w', Below w.heap.size w w' → w'.cell? ⟨3, 0, none⟩ = some (.iface 210 (.pointer (some ad)))) := fun w' h => keep_of_below h _ _ hg
  have HB : Hid (∀ i, i < 6 → ∀ w', Below w.heap.size w w' → w'.cell? ⟨b, i, none⟩ = some (.int .u8 (l.getD i 0).toNat)) := fun i hi w' h => by
    have := (hr.keep h).byte i (by omega)
    simpa using this
  have HK0 : Hid (∀ w', Below w.heap.size w w' → w'.cell? ⟨g, 0, none⟩ = some x0) := fun w' h => by simpa using (hk.keep h).cell 0
  have HL := Lib.hid hl
  have hp8 := p.toNat_lt
  have hq8 := q.toNat_lt
  have hu8 := u.toNat_lt
  have hv8 := v.toNat_lt
  obtain ⟨n, hn⟩ : ∃ n, l.length = n := ⟨_, rfl⟩
  have i1 : decide ((n : Int) < 6) = false := by simp; omega
  have i2 : (6 : Int) ≤ n := by omega
  have i3 : (6 : Int) ≤ c := by omega
  have i4 : (n : Int) ≤ c := by omega
  have i5 : wrap64 ((n : Int) - 4) = (n : Int) - 4 := wrap64_sub n 4 (int_big (by rw [← hn]; exact hm)) (by decide)
  have i6 : decide ((n : Int) - 4 < (N : Int)) = true := by simp; omega
  have hC2 : Hid (∀ w', Below w.heap.size w w' → Calls Tryd.prog 82 #[.agg #[], .slice (some ⟨b, 2, none⟩) 2 (c - 2)] w' fun e w'' => e = .returned (.int .u16 (N : Int)) ∧ Below w'.heap.size w' w'') := fun w' h => by
    have := u16_any b 2 2 (c - 2) p.toNat q.toNat (by omega) (by omega) (by omega) w' (by have := HB.out 2 (by omega) w' h; rw [hl] at this; exact this) (by have := HB.out 3 (by omega) w' h; rw [hl] at this; exact this)
    rwa [hpq] at this
  have hC4 : Hid (∀ w', Below w.heap.size w w' → Calls Tryd.prog 82 #[.agg #[], .slice (some ⟨b, 4, none⟩) (n - 4) (c - 4)] w' fun e w'' => e = .returned (.int .u16 ((u.toNat * 256 + v.toNat : Nat) : Int)) ∧ Below w'.heap.size w' w'') := fun w' h =>
    u16_any b 4 (n - 4) (c - 4) u.toNat v.toNat (by omega) (by omega) (by omega) w' (by have := HB.out 4 (by omega) w' h; rw [hl] at this; exact this) (by have := HB.out 5 (by omega) w' h; rw [hl] at this; exact this)
  have hC0 : Hid (∀ w', Below w.heap.size w w' → Calls Tryd.prog 82 #[.agg #[], .slice (some ⟨b, 0, none⟩) n c] w' fun e w'' => e = .returned (.int .u16 10) ∧ Below w'.heap.size w' w'') := fun w' h =>
    u16_any b 0 n c 0 10 (by omega) (by omega) (by omega) w' (by have := HB.out 0 (by omega) w' h; rw [hl] at this; exact this) (by have := HB.out 1 (by omega) w' h; rw [hl] at this; exact this)
  obtain ⟨M, hM⟩ : ∃ M, u.toNat * 256 + v.toNat = M := ⟨_, rfl⟩
  rw [hM] at hC4
  obtain ⟨h, hh⟩ : ∃ h : Nat, M / 2 = h := ⟨_, rfl⟩
  have w1' : wrap64 (N : Int) = N := wrap64_nat N (big_lt (pair_lt p q N hpq) (by decide))
  have w2' : IntKind.u16.wrap ((M : Int) / 2) = h := by rw [wrap_half M (pair_lt u v M hM), hh]
  have w3' : wrap64 (h : Int) = h := wrap64_nat h (big_lt (half_lt (pair_lt u v M hM) hh) (by decide))
  have k1 : (4 : Int) ≤ c := by omega
  have k4 : (4 : Int) ≤ n := by omega
  have k2 : ¬ c = 2 := by omega
  have k3 : ¬ c = 4 := by omega
  rw [hn]
  clear hh hl hpq hN hm hk hr hlc hg hll hp8 hq8 hu8 hv8 hM HR HB hn
  go_enter Tryd.func41, Tryd.ntmps41
  go_wp2_with fail
  have hb0 : Below w.heap.size w w.drew := below_drew w
  replace HG := HG
  refine wp_region_still_tail 3 (by kernel_rfl) (by kernel_rfl) ?_
  simp only [List.take_succ_cons, List.take_zero, List.drop_succ_cons, List.drop_zero]
  change wpStill _ _ (World.drew w) (fun a => wpList _ _ _ _ a (World.drew w)) _ _
  generalize World.drew w = w1 at *
  repeat still_step
  refine wpStill_nil ?_
  go_wp2_with fail
  refine (hC2.out w1 hb0).mono ?_
  rintro e w2 ⟨rfl, hb1⟩
  have hb2 := below_two hb0 hb1
  clear hb0 hb1 hC2
  go_wp2_with fail
  have hb3 : Below w.heap.size w w2.drew := hb2.drew
  clear hb2
  refine wp_region_still_tail 3 (by kernel_rfl) (by kernel_rfl) ?_
  simp only [List.take_succ_cons, List.take_zero, List.drop_succ_cons, List.drop_zero]
  change wpStill _ _ (World.drew w2) (fun a => wpList _ _ _ _ a (World.drew w2)) _ _
  generalize World.drew w2 = w3 at *
  repeat still_step
  refine wpStill_nil ?_
  go_wp2_with fail
  refine (hC4.out w3 hb3).mono ?_
  rintro e w4 ⟨rfl, hb4⟩
  have hb5 := below_two hb3 hb4
  clear hb3 hb4 hC4
  have m1 : (0 : Int) ≤ M := by omega
  go_wp2_with fail
  go_region_held3 (fun w' => w'.cell? ⟨g, 0, none⟩ = some x0) (exact HK0.out _ (by first | exact hb5.drew | exact below_two hb5.drew (by assumption) | exact below_two (below_two hb5.drew (by assumption)) (by assumption))) (first
    | (go_at_call 82; refine (hC0.out _ (by first | exact hb5.drew | exact below_two hb5.drew (by assumption))).mono ?_; rintro e w6 ⟨rfl, hb6⟩)
    | (go_at_call 83; refine (groupsType _ _).mono ?_; rintro e w7 ⟨rfl, hb7⟩))
  all_goals
    first | (have hbF := below_two (below_two hb5.drew hb6) hb7) | (have hbF := below_two (below_two hb5.drew hb7) hb6)
    have hgF := HG.out _ hbF
    go_wp2_with fail
    go_ret
    exact ⟨rfl, hbF⟩
end Go.Proofs.YtkjpkenhpmjikaaDoor
