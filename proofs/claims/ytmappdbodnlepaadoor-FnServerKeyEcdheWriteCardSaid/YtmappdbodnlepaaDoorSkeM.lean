/- Walks: a server's key exchange by a curve, written. -/
import Derived.Test.YtmappdbodnlepaaDoorSke
namespace Go.Proofs.YtmappdbodnlepaaDoor
open Go.RowKit Go.Cv
set_option maxRecDepth 100000
set_option linter.unusedVariables false
/-- What is written. -/
def skOut (cv h s np : Nat) (pk : List UInt8) (ns : Nat) (sg : List UInt8) : List UInt8 := (3 :: (be 2 cv ++ (be 1 np ++ pk))) ++ (be 2 (code h s) ++ (be 2 ns ++ sg))
theorem rd3 (W : World) (e : TypeId) (u v x : Value) : Rd (W.alloc (.cells #[u, v, x] e)) (some ⟨W.heap.size, 0, none⟩) [u, v, x] := rd_new W e #[u, v, x]
theorem skc {W : World} {b cv h s ra np c1 rb ns c2 : Nat} (hk : Blk W b 87 (skRow cv h s ra np c1 rb ns c2)) :
    W.cell? ⟨b, 2, none⟩ = some (.int .u16 (cv : Int)) ∧ W.cell? ⟨b, 3, none⟩ = some (.slice (some ⟨ra, 0, none⟩) np c1) ∧ W.cell? ⟨b, 4, none⟩ = some (.int .u16 (h : Int)) ∧ W.cell? ⟨b, 5, none⟩ = some (.int .u16 (s : Int)) ∧ W.cell? ⟨b, 6, none⟩ = some (.slice (some ⟨rb, 0, none⟩) ns c2) :=
  ⟨(hk.cell 2).trans rfl, (hk.cell 3).trans rfl, (hk.cell 4).trans rfl, (hk.cell 5).trans rfl, (hk.cell 6).trans rfl⟩
/-- The row that grows. -/
structure Gr (w W : World) (a n c : Nat) (xs : List Value) : Prop where
  own : Own W w.heap.size 1 (some ⟨a, 0, none⟩) n c xs
  ge : w.heap.size ≤ a
  below : Below w.heap.size w W
theorem Gr.append {w W W' w2 : World} {a n c m c' : Nat} {A' : Option Addr} {xs ys : List Value} (h : Gr w W a n c xs) (hb : Below W.heap.size W W') (hO : Own w2 w.heap.size 1 A' (n + m) c' (xs ++ ys)) (hg : W'.grownBy w2 ((some ⟨a, 0, none⟩ : Option Addr).map (·.block))) (hor : (A' = some ⟨a, 0, none⟩ ∧ c' = c) ∨ A' = some ⟨W'.heap.size, 0, none⟩) : ∃ a', A' = some ⟨a', 0, none⟩ ∧ Gr w w2 a' (n + m) c' (xs ++ ys) := by
  have hbb : Below w.heap.size w w2 := (below_two h.below hb).grown hg (Nat.le_trans h.below.size hb.size) (fun k hk => by simp at hk; subst hk; exact h.ge)
  rcases hor with ⟨rfl, _⟩ | rfl
  · exact ⟨a, rfl, hO, h.ge, hbb⟩
  · exact ⟨_, rfl, hO, Nat.le_trans h.below.size hb.size, hbb⟩
theorem Gr.keep {w W W' : World} {a n c : Nat} {xs : List Value} (h : Gr w W a n c xs) (hb : Below W.heap.size W W') : Gr w W' a n c xs := ⟨h.own.keep hb, h.ge, below_two h.below hb⟩
theorem Gr.put {w W W' : World} {a n c : Nat} {xs ys : List Value} (h : Gr w W a n c xs) (hO : Own W' w.heap.size 1 (some ⟨a, 0, none⟩) n c ys) (hg : W.grownBy W' (some a)) : Gr w W' a n c ys :=
  ⟨hO, h.ge, h.below.grown hg h.below.size (fun k hk => by simp at hk; subst hk; exact h.ge)⟩
theorem Gr.le {w W : World} {a n c : Nat} {xs : List Value} (h : Gr w W a n c xs) : w.heap.size ≤ W.heap.size := h.below.size
theorem w64 (n : Nat) (h : n < 4294967296) : IntKind.i64.wrap (n : Int) = n := by rw [IntKind.wrap_i64]; omega
theorem sk_out (cv h s : Nat) (pk : List UInt8) (ns : Nat) (sg : List UInt8) (h6 : pk.length < 256) :
    (((([Value.int .u8 3, Value.int .u8 0, Value.int .u8 0].set 1 (Value.int .u8 ((cv : Int) / 256 % 256))).set (1 + 1) (Value.int .u8 ((cv : Int) % 256)) ++ [Value.int .u8 (pk.length : Int)] ++ vs pk ++ (vs (be 2 (code h s)) ++ [Value.int .u8 0, Value.int .u8 0])).set (6 + pk.length) (Value.int .u8 ((ns : Int) / 256 % 256))).set (6 + pk.length + 1) (Value.int .u8 ((ns : Int) % 256))) ++ vs sg = vs (skOut cv h s pk.length pk ns sg) := by
  have b2 : ∀ m : Nat, vs (be 2 m) = [Value.int .u8 ((m : Int) / 256 % 256), Value.int .u8 ((m : Int) % 256)] := by intro m; simp [be, vs]
  have b1 : vs (be 1 pk.length) = [Value.int .u8 (pk.length : Int)] := by simp [be, vs]; omega
  have c3 : vs (3 :: (be 2 cv ++ (be 1 pk.length ++ pk))) = Value.int .u8 3 :: (vs (be 2 cv) ++ (vs (be 1 pk.length) ++ vs pk)) := by
    rw [← vs_append, ← vs_append]; rfl
  rw [skOut, vs_append, vs_append, vs_append, c3, b1, b2 cv, b2 ns]
  have hP : ([Value.int .u8 3, Value.int .u8 0, Value.int .u8 0].set 1 (Value.int .u8 ((cv : Int) / 256 % 256))).set (1 + 1) (Value.int .u8 ((cv : Int) % 256)) ++ [Value.int .u8 (pk.length : Int)] ++ vs pk ++ (vs (be 2 (code h s)) ++ [Value.int .u8 0, Value.int .u8 0]) = (Value.int .u8 3 :: ([Value.int .u8 ((cv : Int) / 256 % 256), Value.int .u8 ((cv : Int) % 256)] ++ ([Value.int .u8 (pk.length : Int)] ++ vs pk)) ++ vs (be 2 (code h s))) ++ [Value.int .u8 0, Value.int .u8 0] := by simp
  rw [hP]
  have hl : (Value.int .u8 3 :: ([Value.int .u8 ((cv : Int) / 256 % 256), Value.int .u8 ((cv : Int) % 256)] ++ ([Value.int .u8 (pk.length : Int)] ++ vs pk)) ++ vs (be 2 (code h s))).length = 6 + pk.length := by
    simp only [List.length_append, List.length_cons, List.length_nil, vs_length, be_length]; omega
  rw [List.set_append_right _ _ (by rw [hl]; exact Nat.le_refl _), hl, Nat.sub_self, List.set_append_right _ _ (by rw [hl]; omega), hl, Nat.add_sub_cancel_left]
  simp
set_option maxHeartbeats 1000000 in
theorem marshalSk_any (b cv h s ra np c1 rb ns c2 : Nat) (pk sg : List UInt8) (hp : pk.length = np) (hp0 : 0 < np) (hp6 : np < 256) (hs : sg.length = ns) (hs0 : 0 < ns) (hs6 : ns < 60000) (hcv : (cv : Int) < 65536) (ok : OkP h s) (w : World) (hk : Blk w b 87 (skRow cv h s ra np c1 rb ns c2)) (hr1 : Rd w (some ⟨ra, 0, none⟩) (vs pk)) (hr2 : Rd w (some ⟨rb, 0, none⟩) (vs sg)) :
    Calls Tryd.prog 32 #[.pointer (some ⟨b, 0, none⟩)] w fun e w' => ∃ A' n' c', e = .returned (.tuple #[.slice A' n' c', .nilIface]) ∧ (skOut cv h s np pk ns sg).length = n' ∧ Rd w' A' (vs (skOut cv h s np pk ns sg)) ∧ Below w.heap.size w w' := by
  have hps := hk.lt
  have k0 := (hk.cell 0).trans (rfl : _ = some (Value.slice none 0 0))
  have k1 := (hk.cell 1).trans (rfl : _ = some (Value.int .u8 3))
  have k3 := (hk.cell 3).trans (rfl : _ = some (Value.slice (some ⟨ra, 0, none⟩) np c1))
  have t1 : ((np : Int) == 0) = false := by simp; omega
  have t1' : ¬ np = 0 := by omega
  have HK := Lib.hid hk
  have HR1 := Lib.hid hr1
  have HR2 := Lib.hid hr2
  have HP := Lib.hid hp
  have HP0 := Lib.hid hp0
  have HP6 := Lib.hid hp6
  have HS := Lib.hid hs
  have HS0 := Lib.hid hs0
  have HS6 := Lib.hid hs6
  have HCV := Lib.hid hcv
  have HOK := Lib.hid ok
  have HPS := Lib.hid hps
  clear hk hr1 hr2 hp hp0 hp6 hs hs0 hs6 hcv ok
  go_enter Tryd.func32, Tryd.ntmps32
  go_wp2_with (at_builtin; refine Held.on ?_)
  refine held_append rfl (.tmp 38) (.tmp 43) 39 39 rfl w.heap.size 5 _ 1 1 Tryd.underlying39 (.inl Tryd.underlying39) u8info rfl Nat.one_pos (xs := []) (ys := [.int .u8 3, .int .u8 0, .int .u8 0]) rfl rfl (Own.nil _ _ _) ⟨rfl, by intro v h; simp at h; rcases h with rfl | rfl <;> rfl, .inl ⟨_, _, rfl, rd3 _ _ _ _ _⟩⟩ (by omega) (by simp only [maxLen]; omega) (by rw [World.size_alloc]; omega) ?_
  intro A1 d1 w1 hO1 hg1 hor1
  obtain ⟨a1, rfl, ha1⟩ : ∃ a1, A1 = some ⟨a1, 0, none⟩ ∧ w.heap.size ≤ a1 := by
    rcases hor1 with ⟨rfl, rfl⟩ | rfl
    · have := hO1.2.1; omega
    · exact ⟨_, rfl, by rw [World.size_alloc]; omega⟩
  have G1 : Hid (Gr w w1 a1 3 d1 [.int .u8 3, .int .u8 0, .int .u8 0]) := Lib.hid ⟨hO1, ha1, (below_alloc w _).grown hg1 (Nat.le_of_lt (by rw [World.size_alloc]; omega)) (fun k hk => by simp at hk)⟩
  clear hO1 hg1 hor1 ha1 k0 k1 k3
  have G1d : Hid (Gr w w1.drew a1 3 d1 [.int .u8 3, .int .u8 0, .int .u8 0]) := Lib.hid (G1.out.keep (below_drew w1))
  have HKd : Hid (Blk w1.drew b 87 (skRow cv h s ra np c1 rb ns c2)) := Lib.hid (HK.out.keep G1d.out.below)
  obtain ⟨k2, k3, _, _, _⟩ := skc HKd.out
  have hd1 : 3 ≤ d1 := G1.out.own.2.1
  have hd1' : ¬ d1 = 1 := by omega
  have q1 : IntKind.i64.wrap (1 : Int) = 1 := by decide
  go_wp2_with fail
  refine wp_region_still_tail 10 (by kernel_rfl) (by kernel_rfl) ?_
  simp only [List.take_succ_cons, List.take_zero, List.drop_succ_cons, List.drop_zero]
  change wpStill _ _ (World.drew w1) (fun a => wpList _ _ _ _ a (World.drew w1)) _ _
  generalize World.drew w1 = wd at *
  repeat still_step
  refine wpStill_nil ?_
  go_wp2_with fail
  refine (put16_any w.heap.size a1 0 3 d1 1 1 2 (d1 - 1) _ cv wd G1d.out.own (by omega) (by omega) (by omega)).mono ?_
  rintro e w2 ⟨rfl, hO2, hg2⟩
  have G2 := Lib.hid (G1d.out.put hO2 hg2)
  obtain ⟨k2, k3, _, _, _⟩ := skc (HK.out.keep G2.out.below)
  have wp : IntKind.u8.wrap (np : Int) = (np : Int) := by have := HP6.out; rw [IntKind.wrap_u8]; omega
  have wp' : (np : Int) % 256 = (np : Int) := by have := HP6.out; omega
  clear hO2 hg2 G1 G1d HKd hd1 hd1'
  go_wp2_with (at_builtin; refine Held.on ?_)
  refine held_append rfl (.tmp 56) (.tmp 63) 39 39 rfl w.heap.size 5 _ 1 1 Tryd.underlying39 (.inl Tryd.underlying39) u8info rfl Nat.one_pos (ys := [.int .u8 (np : Int)]) rfl rfl (G2.out.own.keep (below_alloc _ _)) ⟨rfl, by intro v h; simp at h; subst h; rfl, .inl ⟨_, _, rfl, rd_single _ _ _⟩⟩ (by omega) (by simp only [maxLen]; omega) (by rw [World.size_alloc]; have := G2.out.le; omega) ?_
  intro A3 d3 w3 hO3 hg3 hor3
  obtain ⟨a3, rfl, hG3⟩ := G2.out.append (below_alloc _ _) hO3 hg3 hor3
  have G3 := Lib.hid hG3
  obtain ⟨k2, k3, _, _, _⟩ := skc (HK.out.keep G3.out.below)
  clear hO3 hg3 hor3 hG3 G2
  go_wp2_with (at_builtin; refine Held.on ?_)
  refine held_append rfl (.tmp 65) (.tmp 69) 39 39 rfl w.heap.size 5 _ 1 1 Tryd.underlying39 (.inl Tryd.underlying39) u8info rfl Nat.one_pos (ys := vs pk) rfl rfl G3.out.own ⟨by rw [vs_length, HP.out]; omega, vs_one _, .inl ⟨_, _, rfl, HR1.out.keep G3.out.below⟩⟩ (by have := HP6.out; omega) (by have := HP6.out; simp only [maxLen]; omega) G3.out.le ?_
  intro A4 d4 w4 hO4 hg4 hor4
  obtain ⟨a4, rfl, hG4⟩ := G3.out.append (Below.refl _ _) hO4 hg4 hor4
  have G4 := Lib.hid hG4
  obtain ⟨k2, k3, k4, k5, k6⟩ := skc (HK.out.keep G4.out.below)
  have hh : 2 ≤ h := by rcases HOK.out.split with ⟨_, h, _⟩ | ⟨_, h, _⟩ <;> omega
  have hss : 1 ≤ s := by rcases HOK.out.split with ⟨h, _⟩ | ⟨h, _⟩ <;> omega
  have u1 : ((h : Int) != 0) = true := by simp; omega
  have u2 : ((h : Int) == 0) = false := by simp; omega
  have u3 : ((s : Int) == 0) = false := by simp; omega
  have u4 : ((ns : Int) == 0) = false := by have := HS0.out; simp; omega
  have u1' : ¬ h = 0 := by omega
  have u3' : ¬ s = 0 := by omega
  have u4' : ¬ ns = 0 := by have := HS0.out; omega
  clear hO4 hg4 hor4 hG4 G3 hh hss
  go_wp2_with fail
  have HS4 : Hid (∀ w', Below w4.heap.size w4 w' → w'.cell? ⟨b, 4, none⟩ = some (.int .u16 (h : Int)) ∧ w'.cell? ⟨b, 5, none⟩ = some (.int .u16 (s : Int))) := Lib.hid (fun w' hb => by
    obtain ⟨_, _, x4, x5, _⟩ := skc (HK.out.keep (below_two G4.out.below hb))
    exact ⟨x4, x5⟩)
  clear k2 k3 k4 k5 k6
  go_region_held_law (fun w' => w'.cell? ⟨b, 4, none⟩ = some (.int .u16 (h : Int)) ∧ w'.cell? ⟨b, 5, none⟩ = some (.int .u16 (s : Int)))
    ((refine HS4.out _ ?_; (repeat (first | assumption | exact Below.refl _ _ | refine Below.drew ?_ | refine Below.setCell ?_ (by first | omega | (simp; done) | (simp; omega)) _ | refine Below.alloc ?_ (by first | omega | (simp; done) | (simp; omega)) _)))) (fail)
  go_wp2_with fail
  have HKA : Blk ((w4.alloc (Obj.cells #[Value.int IntKind.u16 (h : Int), Value.int IntKind.u16 (s : Int)] 106)).drew) w4.heap.size 106 #[.int .u16 (h : Int), .int .u16 (s : Int)] := Blk.new w4 _ #[.int .u16 (h : Int), .int .u16 (s : Int)]
  have G5 := Lib.hid (G4.out.keep ((below_alloc w4 (Obj.cells #[Value.int IntKind.u16 (h : Int), Value.int IntKind.u16 (s : Int)] 106)).drew))
  have HA := Lib.hid (algM_any w4.heap.size h s HOK.out _ HKA)
  clear HKA HS4 G4
  generalize ((w4.alloc (Obj.cells #[Value.int IntKind.u16 (h : Int), Value.int IntKind.u16 (s : Int)] 106)).drew) = W5 at *
  refine HA.out.mono ?_
  rintro e w5 ⟨rfl, hO5, hb5⟩
  have G6 : Hid (Gr W5 w5 W5.heap.size 2 2 (vs (be 2 (code h s)))) := Lib.hid ⟨hO5, Nat.le_refl _, hb5⟩
  clear HA hO5 hb5
  go_wp2_with (at_builtin; refine Held.on ?_)
  refine held_append rfl (.tmp 140) (.tmp 141) 39 39 rfl W5.heap.size 5 _ 1 1 Tryd.underlying39 (.inl Tryd.underlying39) u8info rfl Nat.one_pos (ys := [.int .u8 0, .int .u8 0]) rfl rfl (G6.out.own.keep (below_alloc _ _)) ⟨rfl, by intro v h; simp at h; subst h; rfl, .inl ⟨_, _, rfl, rd_pair _ _ _ _⟩⟩ (by omega) (by simp only [maxLen]; omega) (by rw [World.size_alloc]; have := G6.out.le; omega) ?_
  intro A7 d7 w7 hO7 hg7 hor7
  obtain ⟨a7, rfl, hG7⟩ := G6.out.append (below_alloc _ _) hO7 hg7 hor7
  have G7 := Lib.hid hG7
  have G8 := Lib.hid (G5.out.keep G7.out.below)
  clear hO7 hg7 hor7 hG7 G6 G5
  go_wp2_with (at_builtin; refine Held.on ?_)
  refine held_append rfl (.tmp 139) (.tmp 142) 39 39 rfl w.heap.size 5 _ 1 1 Tryd.underlying39 (.inl Tryd.underlying39) u8info rfl Nat.one_pos (ys := vs (be 2 (code h s)) ++ [.int .u8 0, .int .u8 0]) rfl rfl G8.out.own ⟨by rw [List.length_append, vs_length, be_length]; rfl, by intro v h; rcases List.mem_append.1 h with h | h; exact vs_one _ _ h; simp at h; subst h; rfl, .inl ⟨_, _, rfl, G7.out.own.rd⟩⟩ (by have := HP6.out; omega) (by have := HP6.out; simp only [maxLen]; omega) G8.out.le ?_
  intro A9 d9 w9 hO9 hg9 hor9
  obtain ⟨a9, rfl, hG9⟩ := G8.out.append (Below.refl _ _) hO9 hg9 hor9
  obtain ⟨m, hm⟩ : ∃ m : Nat, 4 + np + (2 + 2) = m := ⟨_, rfl⟩
  simp only [hm] at hG9 ⊢
  have G9 := Lib.hid (hG9.keep (below_drew _))
  have HM := Lib.hid hm
  clear hO9 hg9 hor9 hG9 G8 G7 hm
  go_wp2_with fail
  obtain ⟨e, he⟩ : ∃ e : Nat, 6 + np = e := ⟨_, rfl⟩
  have hem : m = e + 2 := by rw [← HM.out]; omega
  have q2 : (m : Int) - 2 = (e : Int) := by omega
  have q3 : IntKind.i64.wrap (e : Int) = (e : Int) := w64 e (by have := HP6.out; omega)
  have q4 : (e : Int) ≤ m := by omega
  have q5 : ¬ d9 = e := by have := G9.out.own.2.1; omega
  have q6 : IntKind.u16.wrap (ns : Int) = (ns : Int) := by have := HS6.out; rw [IntKind.wrap_u16]; omega
  obtain ⟨_, _, _, _, k6⟩ := skc (HK.out.keep G9.out.below)
  have HE := Lib.hid he
  have HEM := Lib.hid hem
  clear he hem
  refine wp_region_still_tail 12 (by kernel_rfl) (by kernel_rfl) ?_
  simp only [List.take_succ_cons, List.take_zero, List.drop_succ_cons, List.drop_zero]
  change wpStill _ _ (World.drew w9) (fun a => wpList _ _ _ _ a (World.drew w9)) _ _
  generalize World.drew w9 = wd at *
  repeat still_step
  refine wpStill_nil ?_
  go_wp2_with fail
  refine (put16_any w.heap.size a9 0 m d9 e e (m - e) (d9 - e) _ ns wd G9.out.own (by omega) (by have := HEM.out; omega) (by have := HEM.out; omega)).mono ?_
  rintro e' wA ⟨rfl, hOA, hgA⟩
  have GA := Lib.hid (G9.out.put hOA hgA)
  obtain ⟨_, _, _, _, k6⟩ := skc (HK.out.keep GA.out.below)
  have hML : m ≤ 300 := by
    have h1 : 4 + np + (2 + 2) = m := HM.out
    have h2 := HP6.out
    omega
  clear hOA hgA G9 q2 q3 q4 q5 q6
  go_wp2_with (at_builtin; refine Held.on ?_)
  refine held_append rfl (.tmp 157) (.tmp 161) 39 39 rfl w.heap.size 5 _ 1 1 Tryd.underlying39 (.inl Tryd.underlying39) u8info rfl Nat.one_pos (ys := vs sg) rfl rfl GA.out.own ⟨by rw [vs_length, HS.out]; omega, vs_one _, .inl ⟨_, _, rfl, HR2.out.keep GA.out.below⟩⟩ (by have h1 := hML; have h2 := HS6.out; omega) (by have h1 := hML; have h2 := HS6.out; simp only [maxLen]; omega) GA.out.le ?_
  intro AB dB wB hOB hgB horB
  obtain ⟨aB, rfl, hGB⟩ := GA.out.append (Below.refl _ _) hOB hgB horB
  have GB := Lib.hid hGB
  clear hOB hgB horB hGB GA k6
  go_wp2_with fail
  go_ret2
  have hE : (((([Value.int .u8 3, Value.int .u8 0, Value.int .u8 0].set 1 (Value.int .u8 ((cv : Int) / 256 % 256))).set (1 + 1) (Value.int .u8 ((cv : Int) % 256)) ++ [Value.int .u8 (np : Int)] ++ vs pk ++ (vs (be 2 (code h s)) ++ [Value.int .u8 0, Value.int .u8 0])).set e (Value.int .u8 ((ns : Int) / 256 % 256))).set (e + 1) (Value.int .u8 ((ns : Int) % 256))) ++ vs sg = vs (skOut cv h s np pk ns sg) := by
    rw [← HE.out, ← HP.out]
    exact sk_out cv h s pk ns sg (by have := HP.out; have := HP6.out; omega)
  refine ⟨_, _, _, rfl, ?_, ?_, GB.out.below⟩
  · have := congrArg List.length hE
    rw [vs_length] at this
    have hh := GB.out.own.1
    rw [Nat.mul_one] at hh
    rw [← this, hh]
  · rw [← hE]
    exact GB.out.own.rd
end Go.Proofs.YtmappdbodnlepaaDoor
