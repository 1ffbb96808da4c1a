/- Walks: a record's header, made. -/
import Derived.Test.YtpedkkmoplbdhaaDoorU48
import Derived.Test.YtpedkkmoplbdhaaDoorBase
import Derived.StillTailTactics
namespace Go.Proofs.YtpedkkmoplbdhaaDoor
open Go.RowKit Go.Cv
set_option maxRecDepth 100000
set_option linter.unusedVariables false
def rwRow (ct maj mn : UInt8) (ep sq cl : Nat) (cid : List UInt8) : Array Value := #[.int .u8 ct.toNat, .int .u8 maj.toNat, .int .u8 mn.toNat, .int .u16 (ep : Int), .int .u64 (sq : Int), .int .u16 (cl : Int), .string (S cid)]
def hwRow (ct maj mn : UInt8) (ep sq cl : Nat) (A : Option Addr) (n c : Nat) : Array Value := #[.int .u8 ct.toNat, .int .u16 (cl : Int), .int .u8 maj.toNat, .int .u8 mn.toNat, .int .u16 (ep : Int), .int .u64 (sq : Int), .slice A n c]
theorem hwInfo : (Tryd.prog.info? 53).map (·.size) = some 7 := by kernel_rfl
theorem rwInfo : (Tryd.prog.info? 25).map (·.size) = some 7 := by kernel_rfl
theorem headerW_any (ct maj mn : UInt8) (ep sq cl : Nat) (cid : List UInt8) (hn : cid.length ≤ maxLen) (w : World) :
    Calls Tryd.prog 50 #[.agg (rwRow ct maj mn ep sq cl cid)] w fun e w' => ∃ ra c, e = .returned (.agg (hwRow ct maj mn ep sq cl (some ⟨ra, 0, none⟩) cid.length c)) ∧ Rd w' (some ⟨ra, 0, none⟩) (vs cid) ∧ (w.heap.size ≤ ra ∧ ra < w'.heap.size) ∧ Below w.heap.size w w' := by
  unfold rwRow
  go_enter Tryd.func50, Tryd.ntmps50
  go_wp2_with fail
  refine upon_conv_sb 9 51 5 Tryd.underlying9 Tryd.underlying51 Tryd.underlying5 cid hn ?_
  intro c w1 hown hb hlt
  have hk1 := (Blk.new (w.alloc (.cells (rwRow ct maj mn ep sq cl cid) 25)) 53 _).keep hb
  have hrd := hown.rd
  have hlt1 := hb.size
  simp only [World.size_alloc] at hk1 hrd hlt1
  have HR := Lib.hid hrd
  have HZ : Hid (w.heap.size + 1 + 1 ≤ w1.heap.size) := hlt1
  have HLT : Hid (w.heap.size + 1 + 1 < w1.heap.size) := Lib.hid (by simp only [World.size_alloc] at hlt; exact hlt)
  have HB : Hid (Below w.heap.size w w1) := below_two (below_two (below_alloc _ _) (below_alloc _ _)) hb
  have HK := Lib.hid hk1
  clear hown hb hlt hk1 hrd hlt1
  go_wp2_with (with_reducible refine Held.store 53 ?_)
  refine held_store_row (cells := hwRow ct maj mn ep sq cl _ cid.length c) HK.out hwInfo rfl rfl rfl (by simp [hwRow, Value.oneCell']) fun w2 hk hg _ => ?_
  go_wp2_with fail
  refine bodyPost_cell rfl rfl rfl hk Tryd.underlying53 hwInfo ⟨_, _, rfl, ?_, ⟨by omega, Nat.lt_of_lt_of_le HLT.out hg.size⟩, ?_⟩
  · exact HR.out.tch (Tch.grown hg) (by simp)
  · exact HB.out.grown hg (by have := HZ.out; omega) (fun k hk' => by simp at hk'; omega)
/-- A header as it is written. -/
def hdOut (ct maj mn : UInt8) (ep sq cl : Nat) (cid : List UInt8) : List UInt8 := ct :: maj :: mn :: (be 2 ep ++ (be 6 sq ++ (cid ++ be 2 cl)))
theorem hdOut_length (ct maj mn : UInt8) (ep sq cl : Nat) (cid : List UInt8) : (hdOut ct maj mn ep sq cl cid).length = 13 + cid.length := by
  simp only [hdOut, List.length_cons, List.length_append, be_length]; omega
theorem vs_cons (x : UInt8) (l : List UInt8) : vs (x :: l) = Value.int .u8 x.toNat :: vs l := rfl
theorem hd_out (ct maj mn : UInt8) (ep sq cl : Nat) (cid : List UInt8) (n : Nat) (hn : cid.length = n) (x1 x2 : List Value) 
    (h1 : x1 = ((((((List.replicate (13 + n) (Value.int .u8 0)).set 0 (Value.int .u8 ct.toNat)).set 1 (Value.int .u8 maj.toNat)).set 2 (Value.int .u8 mn.toNat)).set 3 (Value.int .u8 ((ep : Int) / 256 % 256))).set (3 + 1) (Value.int .u8 ((ep : Int) % 256))))
    (h2 : x2 = x1.take 5 ++ (vs (be 6 sq) ++ x1.drop (5 + 6))) :
    ((x2.take 11 ++ (vs cid ++ x2.drop (11 + (vs cid).length))).set (11 + n) (Value.int .u8 ((cl : Int) / 256 % 256))).set (11 + n + 1) (Value.int .u8 ((cl : Int) % 256)) = vs (hdOut ct maj mn ep sq cl cid) := by
  have b2 : ∀ m : Nat, vs (be 2 m) = [Value.int .u8 ((m : Int) / 256 % 256), Value.int .u8 ((m : Int) % 256)] := by intro m; simp [be, vs]
  have hz : List.replicate (13 + n) (Value.int .u8 0) = (List.replicate 11 (Value.int .u8 0)) ++ (List.replicate n (Value.int .u8 0) ++ [Value.int .u8 0, Value.int .u8 0]) := by
    rw [show 13 + n = 11 + (n + 2) from by omega, ← List.replicate_append_replicate, ← List.replicate_append_replicate]
    rfl
  rw [hz] at h1
  have h1' : x1 = [Value.int .u8 ct.toNat, Value.int .u8 maj.toNat, Value.int .u8 mn.toNat, Value.int .u8 ((ep : Int) / 256 % 256), Value.int .u8 ((ep : Int) % 256), Value.int .u8 0, Value.int .u8 0, Value.int .u8 0, Value.int .u8 0, Value.int .u8 0, Value.int .u8 0] ++ (List.replicate n (Value.int .u8 0) ++ [Value.int .u8 0, Value.int .u8 0]) := h1
  have h6 : (vs (be 6 sq)).length = 6 := by rw [vs_length, be_length]
  have h2' : x2 = ([Value.int .u8 ct.toNat, Value.int .u8 maj.toNat, Value.int .u8 mn.toNat, Value.int .u8 ((ep : Int) / 256 % 256), Value.int .u8 ((ep : Int) % 256)] ++ vs (be 6 sq)) ++ (List.replicate n (Value.int .u8 0) ++ [Value.int .u8 0, Value.int .u8 0]) := by
    rw [h2, h1', List.append_assoc]; rfl
  have hl : ([Value.int .u8 ct.toNat, Value.int .u8 maj.toNat, Value.int .u8 mn.toNat, Value.int .u8 ((ep : Int) / 256 % 256), Value.int .u8 ((ep : Int) % 256)] ++ vs (be 6 sq)).length = 11 := by
    rw [List.length_append, h6]; rfl
  have t1 : x2.take 11 = [Value.int .u8 ct.toNat, Value.int .u8 maj.toNat, Value.int .u8 mn.toNat, Value.int .u8 ((ep : Int) / 256 % 256), Value.int .u8 ((ep : Int) % 256)] ++ vs (be 6 sq) := by
    rw [h2', ← hl, List.take_left]
  have t2 : x2.drop (11 + (vs cid).length) = [Value.int .u8 0, Value.int .u8 0] := by
    rw [h2', vs_length, hn, ← List.drop_drop, ← hl, List.drop_left]
    rw [List.drop_append_of_le_length (by simp)]
    simp
  rw [t1, t2]
  have hl2 : (([Value.int .u8 ct.toNat, Value.int .u8 maj.toNat, Value.int .u8 mn.toNat, Value.int .u8 ((ep : Int) / 256 % 256), Value.int .u8 ((ep : Int) % 256)] ++ vs (be 6 sq)) ++ vs cid).length = 11 + n := by
    rw [List.length_append, hl, vs_length, hn]
  rw [← List.append_assoc, List.set_append_right _ _ (by rw [hl2]; exact Nat.le_refl _), hl2, Nat.sub_self, List.set_append_right _ _ (by rw [hl2]; omega), hl2, Nat.add_sub_cancel_left, hdOut, vs_cons, vs_cons, vs_cons, vs_append, vs_append, vs_append, b2, b2]
  simp
theorem hdc {W : World} {b ep sq cl n c : Nat} {A : Option Addr} {ct maj mn : UInt8} (hk : Blk W b 53 (hwRow ct maj mn ep sq cl A n c)) :
    W.cell? ⟨b, 0, none⟩ = some (.int .u8 ct.toNat) ∧ W.cell? ⟨b, 1, none⟩ = some (.int .u16 (cl : Int)) ∧ W.cell? ⟨b, 2, none⟩ = some (.int .u8 maj.toNat) ∧ W.cell? ⟨b, 3, none⟩ = some (.int .u8 mn.toNat) ∧ W.cell? ⟨b, 4, none⟩ = some (.int .u16 (ep : Int)) ∧ W.cell? ⟨b, 5, none⟩ = some (.int .u64 (sq : Int)) ∧ W.cell? ⟨b, 6, none⟩ = some (.slice A n c) :=
  ⟨(hk.cell 0).trans rfl, (hk.cell 1).trans rfl, (hk.cell 2).trans rfl, (hk.cell 3).trans rfl, (hk.cell 4).trans rfl, (hk.cell 5).trans rfl, (hk.cell 6).trans rfl⟩
/-- The row that is filled. -/
structure Gw (w W : World) (a n c : Nat) (xs : List Value) : Prop where
  own : Own W w.heap.size 1 (some ⟨a, 0, none⟩) n c xs
  ge : w.heap.size ≤ a
  below : Below w.heap.size w W
theorem Gw.keep {w W W' : World} {a n c : Nat} {xs : List Value} (h : Gw w W a n c xs) (hb : Below W.heap.size W W') : Gw w W' a n c xs := ⟨h.own.keep hb, h.ge, below_two h.below hb⟩
theorem Gw.put {w W W' : World} {a n c : Nat} {xs ys : List Value} (h : Gw w W a n c xs) (hO : Own W' w.heap.size 1 (some ⟨a, 0, none⟩) n c ys) (hg : W.grownBy W' (some a)) : Gw w W' a n c ys :=
  ⟨hO, h.ge, h.below.grown hg h.below.size (fun k hk => by simp at hk; subst hk; exact h.ge)⟩
theorem hm_wrap (n m : Nat) (h : 13 + n = m) (hn : (n : Int) ≤ 2147483647) : (13 : Int) + n = m ∧ IntKind.i64.wrap (m : Int) = m ∧ wrap64 (m : Int) = m := ⟨by omega, by rw [IntKind.wrap_i64]; omega, by unfold wrap64; omega⟩
theorem he_wrap (n m e : Nat) (h : 13 + n = m) (he : 11 + n = e) (hn : (n : Int) ≤ 2147483647) : (11 : Int) + n = e ∧ (m : Int) - 2 = e ∧ IntKind.i64.wrap (e : Int) = e ∧ wrap64 (e : Int) = e ∧ (11 : Int) ≤ e ∧ (e : Int) ≤ m ∧ ¬ m = e := ⟨by omega, by omega, by rw [IntKind.wrap_i64]; omega, by unfold wrap64; omega, by omega, by omega, by omega⟩
set_option maxHeartbeats 2000000 in
theorem marshalHd_ok (b : Nat) (ct maj mn : UInt8) (ep sq cl : Nat) (ra n c : Nat) (cid : List UInt8) (hn : cid.length = n) (hn3 : (n : Int) ≤ 2147483647) (hsq : decide ((281474976710655 : Int) < (sq : Int)) = false) (w : World) (hk : Blk w b 53 (hwRow ct maj mn ep sq cl (some ⟨ra, 0, none⟩) n c)) (hr : Rd w (some ⟨ra, 0, none⟩) (vs cid)) :
    Calls Tryd.prog 51 #[.pointer (some ⟨b, 0, none⟩)] w fun e w' => ∃ A' n' c', e = .returned (.tuple #[.slice A' n' c', .nilIface]) ∧ (hdOut ct maj mn ep sq cl cid).length = n' ∧ Own w' w.heap.size 1 A' n' c' (vs (hdOut ct maj mn ep sq cl cid)) ∧ Hi w.heap.size A' ∧ Below w.heap.size w w' := by
  have hbs := hk.lt
  obtain ⟨m, hm⟩ : ∃ m : Nat, 13 + n = m := ⟨_, rfl⟩
  obtain ⟨e, he⟩ : ∃ e : Nat, 11 + n = e := ⟨_, rfl⟩
  obtain ⟨f0, f1, f2⟩ := hm_wrap n m hm hn3
  obtain ⟨_, _, _, _, _, k5, k6⟩ := hdc hk
  have HN := Lib.hid hn
  have HN3 := Lib.hid hn3
  have HM := Lib.hid hm
  have HE := Lib.hid he
  have HK := Lib.hid hk
  have HR := Lib.hid hr
  clear hn hn3 hm he hk hr
  go_enter Tryd.func51, Tryd.ntmps51
  go_wp2_with fail
  refine upon_make 51 5 (.int .u8 0) 1 Tryd.underlying51 u8info rfl m m rfl rfl (Nat.le_refl _) (by have := HM.out; have := HN3.out; omega) (by have := HM.out; have := HN3.out; simp only [maxLen]; omega) ?_
  intro w1 hown hb1 hsz
  have HB1 := Lib.hid hb1
  have HK1 := Lib.hid (HK.out.keep hb1)
  obtain ⟨k0, _, k2, k3, _, _, _⟩ := hdc HK1.out
  obtain ⟨v0, hv0, hc0, hf0⟩ := hown.at_ 0 (by have := HM.out; omega)
  obtain ⟨v1, hv1, hc1, hf1⟩ := hown.at_ 1 (by have := HM.out; omega)
  obtain ⟨v2, hv2, hc2, hf2⟩ := hown.at_ 2 (by have := HM.out; omega)
  have hs0 := ((hown.set 0 (by have := HM.out; omega) (.int .u8 ct.toNat)).set 1 (by have := HM.out; omega) (.int .u8 maj.toNat)).set 2 (by have := HM.out; omega) (.int .u8 mn.toNat)
  simp only [Nat.zero_add] at hc0 hf0 hc1 hf1 hc2 hf2 hs0
  have i0 : (0 : Int) < m := by have := HM.out; omega
  have i1 : (1 : Int) < m := by have := HM.out; omega
  have i2 : (2 : Int) < m := by have := HM.out; omega
  have HS0 := Lib.hid hs0
  clear hs0 hown hb1 k5 k6 hv0 hv1 hv2 hsz f0 f1 f2
  go_wp2_with fail
  have TX := ((HB1.out.setCell (p := ⟨w.heap.size, 0, none⟩) (Nat.le_refl _) (.int .u8 ct.toNat)).setCell (p := ⟨w.heap.size, 1, none⟩) (Nat.le_refl _) (.int .u8 maj.toNat)).setCell (p := ⟨w.heap.size, 2, none⟩) (Nat.le_refl _) (.int .u8 mn.toNat)
  clear k0 k2 k3 hc0 hf0 hc1 hf1 hc2 hf2 HK1 HB1
  generalize ((w1.setCell ⟨w.heap.size, 0, none⟩ (.int .u8 ct.toNat)).setCell ⟨w.heap.size, 1, none⟩ (.int .u8 maj.toNat)).setCell ⟨w.heap.size, 2, none⟩ (.int .u8 mn.toNat) = X at *
  have G1 : Hid (Gw w X.drew w.heap.size m m (((List.replicate m (Value.int .u8 0)).set 0 (.int .u8 ct.toNat)).set 1 (.int .u8 maj.toNat) |>.set 2 (.int .u8 mn.toNat))) := Lib.hid ⟨HS0.out, Nat.le_refl _, TX.drew⟩
  obtain ⟨_, _, _, _, k4, _, _⟩ := hdc (HK.out.keep G1.out.below)
  have i3 : (3 : Int) ≤ m := by have := HM.out; omega
  have i3' : ¬ m = 3 := by have := HM.out; omega
  have m11 : 11 + 2 ≤ m := by have := HM.out; omega
  clear TX HS0 i0 i1 i2
  refine wp_region_still_tail 7 (by kernel_rfl) (by kernel_rfl) ?_
  simp only [List.take_succ_cons, List.take_zero, List.drop_succ_cons, List.drop_zero]
  change wpStill _ _ (World.drew X) (fun a => wpList _ _ _ _ a (World.drew X)) _ _
  generalize World.drew X = wd at *
  repeat still_step
  refine wpStill_nil ?_
  go_wp2_with fail
  refine (put16_any w.heap.size w.heap.size 0 m m 3 3 (m - 3) (m - 3) _ ep wd G1.out.own (by omega) (by omega) (by omega)).mono ?_
  rintro e' w2 ⟨rfl, hO2, hg2⟩
  have G2 := Lib.hid ((G1.out.put hO2 hg2).keep (below_drew _))
  obtain ⟨_, _, _, _, _, k5, _⟩ := hdc (HK.out.keep G2.out.below)
  clear hO2 hg2 G1 k4 i3 i3'
  have i5 : (5 : Int) ≤ m := by omega
  have i5' : ¬ m = 5 := by omega
  go_wp2_with fail
  refine wp_region_still_tail 6 (by kernel_rfl) (by kernel_rfl) ?_
  simp only [List.take_succ_cons, List.take_zero, List.drop_succ_cons, List.drop_zero]
  change wpStill _ _ (World.drew w2) (fun a => wpList _ _ _ _ a (World.drew w2)) _ _
  generalize World.drew w2 = we at *
  repeat still_step
  refine wpStill_nil ?_
  go_wp2_with fail
  obtain ⟨x1, hx1⟩ : ∃ x, ((((List.replicate m (Value.int .u8 0)).set 0 (.int .u8 ct.toNat)).set 1 (.int .u8 maj.toNat) |>.set 2 (.int .u8 mn.toNat)).set 3 (Value.int .u8 ((ep : Int) / 256 % 256))).set (3 + 1) (Value.int .u8 ((ep : Int) % 256)) = x := ⟨_, rfl⟩
  rw [hx1] at G2
  have HX1 := Lib.hid hx1
  clear hx1
  refine (u48_put w.heap.size w.heap.size 5 5 (m - 5) m m (m - 5) sq _ we G2.out.own (by omega) (by omega) (by omega)).mono ?_
  rintro e' w3 ⟨rfl, hO3, hg3⟩
  have G3 := Lib.hid ((G2.out.put hO3 hg3).keep (below_drew _))
  obtain ⟨x2, hx2⟩ : ∃ x, x1.take 5 ++ (vs (be 6 sq) ++ x1.drop (5 + 6)) = x := ⟨_, rfl⟩
  rw [hx2] at G3
  have HX2 := Lib.hid hx2
  obtain ⟨_, _, _, _, _, _, k6⟩ := hdc (HK.out.keep G3.out.below)
  clear hO3 hg3 G2 k5 i5 i5' hx2
  obtain ⟨p1, p2, p3, p4, p5, p6, p7⟩ := he_wrap n m e HM.out HE.out HN3.out
  have i11 : ¬ m = 11 := by omega
  have i12 : ¬ m = e := p7
  clear p2 p7
  go_wp2_with fail
  refine wp_region_still_tail 12 (by kernel_rfl) (by kernel_rfl) ?_
  simp only [List.take_succ_cons, List.take_zero, List.drop_succ_cons, List.drop_zero]
  change wpStill _ _ (World.drew w3) (fun a => wpList _ _ _ _ a (World.drew w3)) _ _
  generalize World.drew w3 = wf at *
  repeat still_step
  refine wpStill_nil ?_
  refine held_copy_any rfl (.tmp 62) (.tmp 66) 51 51 rfl w.heap.size 5 Tryd.underlying51 (by kernel_rfl) (k := 11) (p := 11) (by omega) rfl rfl G3.out.own (ys := vs cid) (by rw [vs_length, HN.out]; have := HE.out; show n = Nat.min n (e - 11); rw [← this]; exact (Nat.min_eq_left (by omega)).symm) (by rw [vs_length, HN.out]; have := HM.out; omega) (HR.out.keep G3.out.below) (vs_one _) ?_
  intro w4 hO4 hg4
  have G4 := Lib.hid ((G3.out.put hO4 hg4).keep (below_drew _))
  obtain ⟨_, k1, _, _, _, _, _⟩ := hdc (HK.out.keep G4.out.below)
  clear hO4 hg4 G3 k6 p1 i11
  have p2 : (m : Int) - 2 = e := by have := HM.out; have := HE.out; omega
  go_wp2_with fail
  refine wp_region_still_tail 9 (by kernel_rfl) (by kernel_rfl) ?_
  simp only [List.take_succ_cons, List.take_zero, List.drop_succ_cons, List.drop_zero]
  change wpStill _ _ (World.drew w4) (fun a => wpList _ _ _ _ a (World.drew w4)) _ _
  generalize World.drew w4 = wg at *
  repeat still_step
  refine wpStill_nil ?_
  go_wp2_with fail
  refine (put16_any w.heap.size w.heap.size 0 m m e e (m - e) (m - e) _ cl wg G4.out.own (by omega) (by have := HM.out; have := HE.out; omega) (by have := HM.out; have := HE.out; omega)).mono ?_
  rintro e' w5 ⟨rfl, hO5, hg5⟩
  have G5 := Lib.hid (G4.out.put hO5 hg5)
  have hE := hd_out ct maj mn ep sq cl cid n HN.out x1 x2 (by rw [HM.out]; exact HX1.out.symm) HX2.out.symm
  have hr5 := G5.out.own
  rw [← HE.out, hE] at hr5
  have HR5 := Lib.hid hr5
  clear hO5 hg5 G4 k1 hE hr5 p3 p4 p5 p6 i12 p2
  go_wp2_with fail
  go_ret2
  exact ⟨_, _, _, rfl, by rw [hdOut_length, HN.out]; exact HM.out, HR5.out, .inr ⟨_, rfl, Nat.le_refl _⟩, G5.out.below⟩
end Go.Proofs.YtpedkkmoplbdhaaDoor
