/- Walks: SRTP profiles, read. -/
import Derived.Test.YtkjpkenhpmjikaaDoorGroupsOk
namespace Go.Proofs.YtkjpkenhpmjikaaDoor
open Go.RowKit Go.Cv Go.Maps
set_option maxRecDepth 100000
set_option linter.unusedVariables false
theorem srtpType (x y : Value) (w : World) :
    Calls Tryd.prog 85 #[.agg #[x, y]] w fun e w' => e = .returned (.int .u16 14) ∧ Below w.heap.size w w' := by
  go_enter Tryd.func85, Tryd.ntmps85
  go_wp2_with fail
  go_ret
  exact ⟨rfl, below_alloc _ _⟩
def profilesD : DataW Unit := (((((((((DataW.map []).put (.int .u16 1) (.lit (.bool true))).put (.int .u16 2) (.lit (.bool true))).put (.int .u16 3) (.lit (.bool true))).put (.int .u16 4) (.lit (.bool true))).put (.int .u16 5) (.lit (.bool true))).put (.int .u16 6) (.lit (.bool true))).put (.int .u16 7) (.lit (.bool true))).put (.int .u16 8) (.lit (.bool true)))
def isProfile (x : Nat) : Prop := x = 1 ∨ x = 2 ∨ x = 3 ∨ x = 4 ∨ x = 5 ∨ x = 6 ∨ x = 7 ∨ x = 8
theorem profiles_at (x : Nat) (hx : isProfile x) : profilesD.atKey (.int .u16 x) (.lit (.bool false)) = .lit (.bool true) ∧ Maps.has profilesD (.int .u16 x) = true := by
  rcases hx with rfl | rfl | rfl | rfl | rfl | rfl | rfl | rfl <;> exact ⟨by kernel_rfl, by kernel_rfl⟩
theorem profileKeyed : Keyed Tryd.prog 165 := int_keyed Tryd.underlying165
theorem profiles_any (w : World) :
    Calls Tryd.prog 86 #[] w fun e w' => ∃ b, e = .returned (.map (some b)) ∧ w'.ownsMap Tryd.prog 165 (plainElem Tryd.prog 4) b 8 profilesD ∧ Below w.heap.size w w' := by
  have hmm := @run_makeMap Tryd.prog
  have h0 := World.ownsMap_made (H := Unit) w Tryd.prog 165 (plainElem Tryd.prog 4)
  go_enter Tryd.func86, Tryd.ntmps86
  go_wp2_with (with_reducible refine Held.insert ?_)
  refine held_insert rfl (.tmp 1) _ _ 166 rfl 165 4 profileKeyed Tryd.underlying166 _ _ _ _ rfl h0 (by simp [maxLen]) _ _ (.int .u16 1) rfl rfl (keyOf_int_mk Tryd.underlying165 (by decide)) _ _ (plainElem_bool Tryd.underlying4 true) ?_
  intro w1 h1 g1
  go_wp2_with (with_reducible refine Held.insert ?_)
  refine held_insert rfl (.tmp 1) _ _ 166 rfl 165 4 profileKeyed Tryd.underlying166 _ _ _ _ rfl h1 (by simp [maxLen]) _ _ (.int .u16 2) rfl rfl (keyOf_int_mk Tryd.underlying165 (by decide)) _ _ (plainElem_bool Tryd.underlying4 true) ?_
  intro w2 h2 g2
  go_wp2_with (with_reducible refine Held.insert ?_)
  refine held_insert rfl (.tmp 1) _ _ 166 rfl 165 4 profileKeyed Tryd.underlying166 _ _ _ _ rfl h2 (by simp [maxLen]) _ _ (.int .u16 3) rfl rfl (keyOf_int_mk Tryd.underlying165 (by decide)) _ _ (plainElem_bool Tryd.underlying4 true) ?_
  intro w3 h3 g3
  go_wp2_with (with_reducible refine Held.insert ?_)
  refine held_insert rfl (.tmp 1) _ _ 166 rfl 165 4 profileKeyed Tryd.underlying166 _ _ _ _ rfl h3 (by simp [maxLen]) _ _ (.int .u16 4) rfl rfl (keyOf_int_mk Tryd.underlying165 (by decide)) _ _ (plainElem_bool Tryd.underlying4 true) ?_
  intro w4 h4 g4
  go_wp2_with (with_reducible refine Held.insert ?_)
  refine held_insert rfl (.tmp 1) _ _ 166 rfl 165 4 profileKeyed Tryd.underlying166 _ _ _ _ rfl h4 (by simp [maxLen]) _ _ (.int .u16 5) rfl rfl (keyOf_int_mk Tryd.underlying165 (by decide)) _ _ (plainElem_bool Tryd.underlying4 true) ?_
  intro w5 h5 g5
  go_wp2_with (with_reducible refine Held.insert ?_)
  refine held_insert rfl (.tmp 1) _ _ 166 rfl 165 4 profileKeyed Tryd.underlying166 _ _ _ _ rfl h5 (by simp [maxLen]) _ _ (.int .u16 6) rfl rfl (keyOf_int_mk Tryd.underlying165 (by decide)) _ _ (plainElem_bool Tryd.underlying4 true) ?_
  intro w6 h6 g6
  go_wp2_with (with_reducible refine Held.insert ?_)
  refine held_insert rfl (.tmp 1) _ _ 166 rfl 165 4 profileKeyed Tryd.underlying166 _ _ _ _ rfl h6 (by simp [maxLen]) _ _ (.int .u16 7) rfl rfl (keyOf_int_mk Tryd.underlying165 (by decide)) _ _ (plainElem_bool Tryd.underlying4 true) ?_
  intro w7 h7 g7
  go_wp2_with (with_reducible refine Held.insert ?_)
  refine held_insert rfl (.tmp 1) _ _ 166 rfl 165 4 profileKeyed Tryd.underlying166 _ _ _ _ rfl h7 (by simp [maxLen]) _ _ (.int .u16 8) rfl rfl (keyOf_int_mk Tryd.underlying165 (by decide)) _ _ (plainElem_bool Tryd.underlying4 true) ?_
  intro w8 h8 g8
  have hb : Below w.heap.size w w8 := by
    have g : (w.alloc (.map #[] 0)).grownBy w8 (some w.heap.size) := (grown_trans (grown_trans (grown_trans (grown_trans (grown_trans (grown_trans (grown_trans g1 g2) g3) g4) g5) g6) g7) g8)
    exact below_append_new g
  go_wp2_with fail
  go_ret
  exact ⟨_, rfl, h8, hb⟩
theorem srtp_no1 (g b c : Nat) (l : List UInt8) (hl : l.length < 7) (ad : Addr) (w : World) (hg : w.cell? ⟨0, 0, none⟩ = some (.iface 210 (.pointer (some ad)))) :
    Calls Tryd.prog 43 #[.pointer (some ⟨g, 0, none⟩), .slice (some ⟨b, 0, none⟩) l.length c] w fun e w' =>
      e = .returned (.iface 210 (.pointer (some ad))) ∧ Below w.heap.size w w' := by
  have h1 : decide ((l.length : Int) ≤ 6) = true := by simp; omega
  clear hl
  go_enter Tryd.func43, Tryd.ntmps43
  go_wp2_with fail
  go_ret
  exact ⟨rfl, Below.refl _ _⟩
set_option maxHeartbeats 1000000 in
theorem srtp_no2 (g b c : Nat) (l : List UInt8) (p q u v : UInt8) (r : List UInt8) (hl : l = 0 :: 14 :: p :: q :: u :: v :: r) (k : Nat) (huv : u.toNat * 256 + v.toNat = k * 2) (hk1 : k ≤ 1000) (n : Nat) (hn : l.length = n) (hn7 : 7 ≤ n) (hn9 : n ≤ 3000) (hs7 : n < 2 * k + 7) (x0 x1 : Value) (ad : Addr) (w : World) (hk : Blk w g 79 #[x0, x1]) (hr : Rd w (some ⟨b, 0, none⟩) (vs l)) (hlc : l.length ≤ c) (hg : w.cell? ⟨3, 0, none⟩ = some (.iface 210 (.pointer (some ad)))) :
    Calls Tryd.prog 43 #[.pointer (some ⟨g, 0, none⟩), .slice (some ⟨b, 0, none⟩) l.length c] w fun e w' =>
      e = .returned (.iface 210 (.pointer (some ad))) ∧ Below w.heap.size w w' := by
  have HG : Hid (∀ w', Below w.heap.size w w' → w'.cell? ⟨3, 0, none⟩ = some (.iface 210 (.pointer (some ad)))) := fun w' h => keep_of_below h _ _ hg
  have HK0 : Hid (∀ w', Below w.heap.size w w' → w'.cell? ⟨g, 0, none⟩ = some (x0) ∧ w'.cell? ⟨g, 1, none⟩ = some (x1)) := fun w' h => ⟨by simpa using (hk.keep h).cell 0, by simpa using (hk.keep h).cell 1⟩
  have HB : Hid (∀ i, i < n → ∀ w', Below w.heap.size w w' → w'.cell? ⟨b, i, none⟩ = some (.int .u8 (l.getD i 0).toNat)) := fun i hi w' h => by
    have := (hr.keep h).byte i (by omega)
    simpa using this
  have hp8 := p.toNat_lt
  have hq8 := q.toNat_lt
  have hu8 := u.toNat_lt
  have hv8 := v.toNat_lt
  have hC4 : Hid (∀ w', Below w.heap.size w w' → Calls Tryd.prog 82 #[.agg #[], .slice (some ⟨b, 4, none⟩) (n - 4) (c - 4)] w' fun e w'' => e = .returned (.int .u16 ((k : Int) * 2)) ∧ Below w'.heap.size w' w'') := fun w' h => by
    have := u16_any b 4 (n - 4) (c - 4) u.toNat v.toNat (by omega) (by omega) (by omega) w' (by have := HB.out 4 (by omega) w' h; rw [hl] at this; exact this) (by have := HB.out 5 (by omega) w' h; rw [hl] at this; exact this)
    rw [huv] at this
    simpa using this
  have hC0 : Hid (∀ w', Below w.heap.size w w' → Calls Tryd.prog 82 #[.agg #[], .slice (some ⟨b, 0, none⟩) n c] w' fun e w'' => e = .returned (.int .u16 14) ∧ Below w'.heap.size w' w'') := fun w' h =>
    u16_any b 0 n c 0 14 (by omega) (by omega) (by omega) w' (by have := HB.out 0 (by omega) w' h; rw [hl] at this; exact this) (by have := HB.out 1 (by omega) w' h; rw [hl] at this; exact this)
  obtain ⟨s, hs⟩ : ∃ s : Nat, 6 + 2 * k = s := ⟨_, rfl⟩
  have i1 : decide ((n : Int) ≤ 6) = false := by simp; omega
  have i2 : (7 : Int) ≤ n := by omega
  have i3 : (7 : Int) ≤ c := by omega
  have i4 : (n : Int) ≤ c := by omega
  have k0 : (0 : Int) ≤ k := by omega
  have k5 : (k : Int) ≤ 1000 := by omega
  have k6 : (n : Int) ≤ 3000 := by omega
  have k1 : (4 : Int) ≤ c := by omega
  have k4 : (4 : Int) ≤ n := by omega
  have k2 : ¬ c = 2 := by omega
  have k3 : ¬ c = 4 := by omega
  have t4 : (k : Int) * 2 / 2 = k := by omega
  have s3 : (6 + (k : Int) * 2) = (s : Int) := by omega
  have s9 : (s : Int) ≤ 3000 := by omega
  have t1 : decide ((n : Int) < (s : Int) + 1) = true := by simp; omega
  rw [hn]
  clear hl huv hk hr hlc hp8 hq8 hu8 hv8 HB hn hg hs hs7 hk1 hn7 hn9
  go_enter Tryd.func43, Tryd.ntmps43
  go_wp2_with fail
  go_region_held3 (fun w' => w'.cell? ⟨g, 0, none⟩ = some (x0) ∧ w'.cell? ⟨g, 1, none⟩ = some (x1)) (exact HK0.out _ (by first | exact below_drew w | exact (below_drew w).trans (by assumption) | exact below_two ((below_drew w).trans (by assumption)) (by assumption))) (first
    | (go_at_call 82; refine (hC0.out _ (by first | exact below_drew w | exact (below_drew w).trans (by assumption))).mono ?_; rintro e w6 ⟨rfl, hb6⟩)
    | (go_at_call 85; refine (srtpType _ _ _).mono ?_; rintro e w7 ⟨rfl, hb7⟩))
  all_goals
    first | (have hb2 := below_two ((below_drew w).trans hb6) hb7) | (have hb2 := below_two ((below_drew w).trans hb7) hb6)
    clear hb6 hb7 hC0
    rename World => wS
    go_wp2_with fail
    have hb3 : Below w.heap.size w (World.drew wS) := hb2.drew
    clear hb2
    refine wp_region_still_tail 3 (by kernel_rfl) (by kernel_rfl) ?_
    simp only [List.take_succ_cons, List.take_zero, List.drop_succ_cons, List.drop_zero]
    change wpStill _ _ (World.drew wS) (fun a => wpList _ _ _ _ a (World.drew wS)) _ _
    generalize World.drew wS = w3 at *
    repeat still_step
    refine wpStill_nil ?_
    go_wp2_with fail
    refine (hC4.out w3 hb3).mono ?_
    rintro e w4 ⟨rfl, hb4⟩
    have hb5 := below_two hb3 hb4
    clear hb3 hb4 hC4
    have hgF := HG.out _ hb5
    go_wp2_with fail
    go_ret
    exact ⟨rfl, hb5⟩
end Go.Proofs.YtkjpkenhpmjikaaDoor
