/- Walks: a new keyed hash. -/
import Derived.Test.YtpedkkmoplbdhaaDoorHmac
import Derived.Test.YtpedkkmoplbdhaaDoorBase
import Derived.Deep.DeepCutAuto
namespace Go.Proofs.YtpedkkmoplbdhaaDoor
open Go.RowKit Go.Cv
set_option maxRecDepth 100000
set_option linter.unusedVariables false
/-- The new keyed hash at block h, its pointer's box right behind it; nothing below h is turned. -/
structure Nw (w0 w : World) (h : Nat) (cs : Array Value) : Prop where
  ptr : w.cell? ⟨h + 1, 0, none⟩ = some (.pointer (some ⟨h, 0, none⟩))
  blk : Blk w h 182 cs
  bel : Below h w0 w
theorem Nw.tch {w0 w w' : World} {h : Nat} {cs : Array Value} {L : List Nat} (s : Nw w0 w h cs) (ht : Tch L w w') (hl : ∀ k ∈ L, h + 1 < k) : Nw w0 w' h cs :=
  ⟨ht.cell s.ptr (fun hm => by have := hl _ hm; simp at this), s.blk.tch ht (fun hm => by have := hl _ hm; omega), s.bel.trans ⟨ht.os, ht.tape, ht.output, ht.size, fun k hk => ht.block k (Nat.lt_trans hk s.blk.lt) (fun hm => by have := hl _ hm; omega)⟩⟩
theorem Nw.keep {w0 w w' : World} {h : Nat} {cs : Array Value} (s : Nw w0 w h cs) (hb : Below w.heap.size w w') : Nw w0 w' h cs := s.tch (Tch.below hb []) (by simp)
theorem Nw.set {w0 w : World} {h : Nat} {cs : Array Value} (s : Nw w0 w h cs) (i : Nat) (v : Value) : Nw w0 (w.setCell ⟨h, i, none⟩ v) h (cs.setIfInBounds i v) :=
  ⟨(Tch.set w h i v).cell s.ptr (by simp), s.blk.set_ i v, s.bel.setCell (p := ⟨h, i, none⟩) (Nat.le_refl _) v⟩
/-- A keyed hash at block h that was told the bytes li; nothing below h is turned. -/
structure HM (w0 w : World) (h kind : Nat) (key li : List UInt8) : Prop where
  ex : ∃ O I d1 d2 A1 A2 lo kl, Blk w h 182 (hmRow (.slice (some ⟨O, 0, none⟩) (toyBlock kind) (toyBlock kind)) (.slice (some ⟨I, 0, none⟩) (toyBlock kind) (toyBlock kind)) (.iface 132 (.pointer (some ⟨d2, 0, none⟩))) (.iface 132 (.pointer (some ⟨d1, 0, none⟩))) kl) ∧ Rd w (some ⟨O, 0, none⟩) (vs (hmPad 92 kind key)) ∧ Dg w d1 kind A1 (hmPad 54 kind key ++ li) ∧ Dg w d2 kind A2 lo ∧ h < O ∧ O < w.heap.size ∧ (∀ k ∈ foot d1 A1, h < k ∧ k ≠ O) ∧ (∀ k ∈ foot d2 A2, h < k ∧ k ≠ O ∧ k ∉ foot d1 A1)
  bel : Below h w0 w
theorem Nw.cells {w0 w : World} {h : Nat} {op ip x y : Value} {kl : Int} (s : Nw w0 w h (hmRow op ip x y kl)) : w.cell? ⟨h, 0, none⟩ = some op ∧ w.cell? ⟨h, 1, none⟩ = some ip ∧ w.cell? ⟨h, 2, none⟩ = some x ∧ w.cell? ⟨h, 3, none⟩ = some y ∧ ∀ i, w.frozen? ⟨h, i, none⟩ = false :=
  ⟨s.blk.cell 0, s.blk.cell 1, s.blk.cell 2, s.blk.cell 3, s.blk.frozen⟩
theorem Nw.set0 {w0 w : World} {h : Nat} {op ip x y : Value} {kl : Int} (s : Nw w0 w h (hmRow op ip x y kl)) (v : Value) : Nw w0 (w.setCell ⟨h, 0, none⟩ v) h (hmRow v ip x y kl) := s.set 0 v
theorem Nw.set1 {w0 w : World} {h : Nat} {op ip x y : Value} {kl : Int} (s : Nw w0 w h (hmRow op ip x y kl)) (v : Value) : Nw w0 (w.setCell ⟨h, 1, none⟩ v) h (hmRow op v x y kl) := s.set 1 v
theorem Nw.set2 {w0 w : World} {h : Nat} {op ip x y : Value} {kl : Int} (s : Nw w0 w h (hmRow op ip x y kl)) (v : Value) : Nw w0 (w.setCell ⟨h, 2, none⟩ v) h (hmRow op ip v y kl) := s.set 2 v
theorem Nw.set3 {w0 w : World} {h : Nat} {op ip x y : Value} {kl : Int} (s : Nw w0 w h (hmRow op ip x y kl)) (v : Value) : Nw w0 (w.setCell ⟨h, 3, none⟩ v) h (hmRow op ip x v kl) := s.set 3 v
theorem at_copy {P : Program} {ops : Array Oper} {rest : List Oper} {dst : Option Nat} {ar : Array Operand} {ts : Array TypeId} {ty : TypeId} {ps : String} {af} {g} {a : Act} {Q : Exit → Act → World → Prop} {w : World}
    (h : Held (wpList P ops Q (⟨dst, .call { callee := .builtin .copy, args := ar, argTypes := ts }, ty, ps, af, g⟩ :: rest) a w)) : wpList P ops Q (⟨dst, .call { callee := .builtin .copy, args := ar, argTypes := ts }, ty, ps, af, g⟩ :: rest) a w := Held.on h
theorem m_write (d : Nat) (W : World) : (method 329 132 (.pointer (some ⟨d, 0, none⟩)) "Write").run Tryd.prog W = .ok (150, .pointer (some ⟨d, 0, none⟩)) W := by kernel_rfl
theorem m_sum (d : Nat) (W : World) : (method 329 132 (.pointer (some ⟨d, 0, none⟩)) "Sum").run Tryd.prog W = .ok (149, .pointer (some ⟨d, 0, none⟩)) W := by kernel_rfl
theorem unique_dg (h u d1 d2 k1 k2 : Nat) (A1 A2 : Option Addr) (l1 l2 : List UInt8) (op ip : Value) (kl : Int) (w0 w : World) (hd : d2 ≠ d1) (D2 : Dg w d2 k2 A2 l2) (D1 : Dg w d1 k1 A1 l1) (s : Nw w0 w h (hmRow op ip (.iface 132 (.pointer (some ⟨d2, 0, none⟩))) (.iface 132 (.pointer (some ⟨d1, 0, none⟩))) kl)) :
    Calls Tryd.prog 105 #[.pointer (some ⟨h + 1, 0, none⟩), .pointer (some ⟨u, 0, none⟩)] w fun e w' => e = .returned (.tuple #[]) ∧ Below w.heap.size w w' := by
  obtain ⟨⟨c1, b1, _⟩, _⟩ := D1
  obtain ⟨⟨c2, b2, _⟩, _⟩ := D2
  exact unique_any (h + 1) u h d1 d2 op ip kl _ _ _ _ w hd b2 b1 s.ptr s.blk
def zeroRow (m : Nat) : Obj := .cells (madeCells (Value.cells (.int .u8 0)) (m * 1)) 5
theorem make_bytes (m : Nat) (hm : m ≤ 64) (W : World) : (Instr.makeSlice 51 (.int .i64 (m : Int)) (.int .i64 (m : Int))).run Tryd.prog W = .ok (.slice (some ⟨W.heap.size, 0, none⟩) m m) (W.alloc (zeroRow m)) :=
  run_make_any W 51 5 (.int .u8 0) 1 1 Tryd.underlying51 t_u8info rfl .i64 .i64 m m m m rfl rfl (Nat.le_refl _) (by omega) (by simp only [maxLen]; omega)
theorem own_zero (w : World) (m : Nat) (hm : m ≤ 64) : Own (w.alloc (zeroRow m)) w.heap.size 1 (some ⟨w.heap.size, 0, none⟩) m m (List.replicate m (.int .u8 0)) :=
  own_made w 5 (.int .u8 0) m m rfl (Nat.le_refl _) (by simp only [maxLen]; omega)
set_option maxHeartbeats 4000000 in
theorem newHmac (b kind : Nat) (hk : kind < 64) (A : Option Addr) (n c : Nat) (key : List UInt8) (hn : key.length = n) (hs : n ≤ 100000) (w : World) (hb : w.cell? ⟨b, 0, none⟩ = some (.int .i64 (kind : Nat))) (hr : Rd w A (vs key)) :
    Calls Tryd.prog 99 #[.func (Fn.func 70) #[] #[.pointer (some ⟨b, 0, none⟩)], .slice A n c] w fun e w' => ∃ h, e = .returned (.pointer (some ⟨h, 0, none⟩)) ∧ h = w.heap.size ∧ HM w w' h kind key [] := by
  have HH : Hid (∀ W, Below w.heap.size w W → Calls Tryd.prog 70 #[.pointer (some ⟨b, 0, none⟩)] W fun e w' => ∃ d, e = .returned (.iface 132 (.pointer (some ⟨d, 0, none⟩))) ∧ Dg w' d kind none [] ∧ W.heap.size ≤ d ∧ Below W.heap.size W w') := Lib.hid (fun W hW => hashOne b kind W (keep_of_below hW _ _ hb))
  have HN := Lib.hid hn
  have HR := Lib.hid hr
  have HS := Lib.hid hs
  clear hb hn hr hs
  go_enter Tryd.func99, Tryd.ntmps99
  go_wp2_with fail
  have S1 : Nw w ((w.alloc (.cells #[.slice none 0 0, .slice none 0 0, .nilIface, .nilIface, .bool false, .bool false, .int .i64 n] 182)).alloc (.cells #[.pointer (some ⟨w.heap.size, 0, none⟩)] 174)) w.heap.size (hmRow (.slice none 0 0) (.slice none 0 0) .nilIface .nilIface n) :=
    ⟨by simp, (Blk.new w _ _).alloc _, below_two (below_alloc _ _) (below_alloc _ _)⟩
  generalize (World.alloc (World.alloc w _) _) = X at S1 ⊢
  obtain ⟨h, hh⟩ : ∃ h, w.heap.size = h := ⟨_, rfl⟩
  rw [hh] at S1 HH ⊢
  have HHW := Lib.hid hh
  clear hh
  have HX := Lib.hid S1
  have q0 : X.drew.cell? ⟨h + 1, 0, none⟩ = some (.pointer (some ⟨h, 0, none⟩)) := S1.ptr
  clear S1
  go_region_held_law (fun w' => w'.cell? ⟨h + 1, 0, none⟩ = some (.pointer (some ⟨h, 0, none⟩))) (first | exact q0 | exact S2.ptr | exact (S2.set2 _).ptr)
    (first | (go_at_call 70; go_loud (with_reducible refine (HH.out _ (HX.out.keep (below_drew _)).bel).mono ?_; rintro e w2 ⟨d2, rfl, hD2, hd2, hb2⟩; have S2 := (HX.out.keep (below_drew _)).keep hb2; obtain ⟨_, _, c2, _, f2⟩ := S2.cells; replace f2 := f2 2)))
  have hX1 : h + 1 < X.heap.size := block_lt (a := ⟨h + 1, 0, none⟩) q0
  have hd2 : X.heap.size ≤ d2 := hd2
  have S3 := Lib.hid (S2.set2 (.iface 132 (.pointer (some ⟨d2, 0, none⟩))))
  have D2 := Lib.hid (hD2.tch (Tch.set w2 h 2 (.iface 132 (.pointer (some ⟨d2, 0, none⟩)))) (by simp [foot]; omega))
  have g2 : h + 1 < d2 := by omega
  clear q0 c2 f2 S2 HX hX1 hD2 hd2 hb2
  generalize World.setCell w2 _ _ = w3 at *
  have q0 : w3.drew.cell? ⟨h + 1, 0, none⟩ = some (.pointer (some ⟨h, 0, none⟩)) := S3.out.ptr
  go_wp2_with fail
  go_region_held_law (fun w' => w'.cell? ⟨h + 1, 0, none⟩ = some (.pointer (some ⟨h, 0, none⟩))) (first | exact q0 | exact S4.ptr | exact (S4.set3 _).ptr)
    (first | (go_at_call 70; with_reducible refine (HH.out _ (S3.out.keep (below_drew _)).bel).mono ?_; rintro e w4 ⟨d1, rfl, hD1, hd1, hb4⟩; have S4 := (S3.out.keep (below_drew _)).keep hb4; obtain ⟨_, _, _, c3, f3⟩ := S4.cells; replace f3 := f3 3))
  have hd1 : w3.heap.size ≤ d1 := hd1
  have S5 := Lib.hid (S4.set3 (.iface 132 (.pointer (some ⟨d1, 0, none⟩))))
  have T5 := Tch.set w4 h 3 (.iface 132 (.pointer (some ⟨d1, 0, none⟩)))
  have g12 : d2 < d1 := Nat.lt_of_lt_of_le (D2.out.lt d2 (by simp [foot])) hd1
  have D1 := Lib.hid (hD1.tch T5 (by simp [foot]; omega))
  replace D2 := Lib.hid (((D2.out.keep (below_drew _)).keep hb4).tch T5 (by simp [foot]; omega))
  clear q0 c3 f3 S4 S3 hD1 hd1 hb4 T5
  generalize World.setCell w4 _ _ = w5 at *
  go_wp2_with fail
  obtain ⟨u, hu⟩ : ∃ u, w5.heap.size = u := ⟨_, rfl⟩
  have b6 := below_alloc w5 (.cells #[.bool true] 4)
  have cu : (w5.alloc (.cells #[.bool true] 4)).cell? ⟨u, 0, none⟩ = some (.bool true) := by rw [← hu]; simp
  have gu : d1 < u := by have := D1.out.lt d1 (by simp [foot]); omega
  replace S5 := Lib.hid (S5.out.keep b6)
  replace D1 := Lib.hid (D1.out.keep b6)
  replace D2 := Lib.hid (D2.out.keep b6)
  rw [hu]
  have HU := Lib.hid hu
  clear b6 hu
  generalize World.alloc w5 _ = w6 at *
  refine (unique_dg h u d1 d2 kind kind none none [] [] _ _ _ w w6 (by omega) D2.out D1.out S5.out).mono ?_
  rintro e w7 ⟨rfl, hb7⟩
  replace S5 := Lib.hid (S5.out.keep hb7)
  replace D1 := Lib.hid (D1.out.keep hb7)
  replace D2 := Lib.hid (D2.out.keep hb7)
  replace cu := keep_of_below hb7 _ _ cu
  clear hb7
  have cp := S5.out.ptr
  obtain ⟨_, _, _, c3, _⟩ := S5.out.cells
  go_wp2_with fail
  refine (digBlock d1 kind none [] hk w7 D1.out).mono ?_
  rintro e w8 ⟨rfl, rfl⟩
  obtain ⟨m, hm⟩ : ∃ m, toyBlock kind = m := ⟨_, rfl⟩
  have hm8 := toyBlock_le kind
  rw [hm] at hm8 ⊢
  have HM := Lib.hid hm
  have hmk := make_bytes m hm8.2
  clear cu cp c3 hm
  have q0 : w7.drew.cell? ⟨h + 1, 0, none⟩ = some (.pointer (some ⟨h, 0, none⟩)) := S5.out.ptr
  have q1 : (w7.drew.alloc (zeroRow m)).cell? ⟨h, 1, none⟩ = some (.slice none 0 0) := ((S5.out.keep (below_drew _)).keep (below_alloc _ _)).cells.2.1
  have q2 : (w7.drew.alloc (zeroRow m)).frozen? ⟨h, 1, none⟩ = false := ((S5.out.keep (below_drew _)).keep (below_alloc _ _)).cells.2.2.2.2 1
  have q3 : w7.cell? ⟨h, 1, none⟩ = some (.slice none 0 0) := S5.out.cells.2.1
  have q4 : w7.frozen? ⟨h, 1, none⟩ = false := S5.out.cells.2.2.2.2 1
  have q5 : w7.drew.cell? ⟨h, 1, none⟩ = some (.slice none 0 0) := q3
  have q6 : h < w7.heap.size := S5.out.blk.lt
  have q7 : ¬ h = w7.heap.size := by omega
  have q8 : ¬ w7.heap.size = h := by omega
  go_wp2_with fail
  go_region_held_law (fun w' => w'.cell? ⟨h + 1, 0, none⟩ = some (.pointer (some ⟨h, 0, none⟩))) (first | exact q0 | exact (S5.out.keep (below_drew _)).ptr | exact ((S5.out.keep (below_drew _)).keep (below_alloc _ _)).ptr | exact ((S5.out.set1 _).keep (below_alloc _ _)).ptr) (fail)
  go_wp2_with fail
  have gI : d1 < w7.heap.size := by have := D1.out.lt d1 (by simp [foot]); omega
  have T8 : Tch [h] w7 ((w7.setCell ⟨h, 1, none⟩ (.slice (some ⟨w7.heap.size, 0, none⟩) m m)).alloc (zeroRow m)).drew := ((Tch.set w7 h 1 _).trans ((Tch.alloc _ _).more (by simp))).trans ((Tch.drew _).more (by simp))
  have OI : Own ((w7.setCell ⟨h, 1, none⟩ (.slice (some ⟨w7.heap.size, 0, none⟩) m m)).alloc (zeroRow m)).drew 0 1 (some ⟨w7.heap.size, 0, none⟩) m m (List.replicate m (.int .u8 0)) := by
    have h1 := own_zero (w7.setCell ⟨h, 1, none⟩ (.slice (some ⟨w7.heap.size, 0, none⟩) m m)) m hm8.2
    rw [World.size_setCell] at h1
    exact h1.lower (Nat.zero_le _)
  replace D1 := Lib.hid (D1.out.tch T8 (by simp [foot]; omega))
  replace D2 := Lib.hid (D2.out.tch T8 (by simp [foot]; omega))
  have S8 : Nw w ((w7.setCell ⟨h, 1, none⟩ (.slice (some ⟨w7.heap.size, 0, none⟩) m m)).alloc (zeroRow m)).drew h (hmRow (.slice none 0 0) (.slice (some ⟨w7.heap.size, 0, none⟩) m m) (.iface 132 (.pointer (some ⟨d2, 0, none⟩))) (.iface 132 (.pointer (some ⟨d1, 0, none⟩))) n) := ((S5.out.set1 _).keep (below_alloc _ _)).keep (below_drew _)
  have gs8 : w7.heap.size < ((w7.setCell ⟨h, 1, none⟩ (.slice (some ⟨w7.heap.size, 0, none⟩) m m)).alloc (zeroRow m)).drew.heap.size := by
    show w7.heap.size < ((w7.setCell ⟨h, 1, none⟩ (.slice (some ⟨w7.heap.size, 0, none⟩) m m)).alloc (zeroRow m)).heap.size
    rw [World.size_alloc, World.size_setCell]; omega
  clear q0 q1 q2 q3 q4 q5 q6 q7 q8 T8 S5
  generalize World.drew (World.alloc (World.setCell w7 _ _) _) = w8 at *
  generalize w7.heap.size = I at *
  replace OI := Lib.hid OI
  replace S8 := Lib.hid S8
  have q0 : w8.drew.cell? ⟨h + 1, 0, none⟩ = some (.pointer (some ⟨h, 0, none⟩)) := S8.out.ptr
  have q1 : (w8.drew.alloc (zeroRow m)).cell? ⟨h, 0, none⟩ = some (.slice none 0 0) := ((S8.out.keep (below_drew _)).keep (below_alloc _ _)).cells.1
  have q2 : (w8.drew.alloc (zeroRow m)).frozen? ⟨h, 0, none⟩ = false := ((S8.out.keep (below_drew _)).keep (below_alloc _ _)).cells.2.2.2.2 0
  have q3 : w8.cell? ⟨h, 0, none⟩ = some (.slice none 0 0) := S8.out.cells.1
  have q4 : w8.frozen? ⟨h, 0, none⟩ = false := S8.out.cells.2.2.2.2 0
  have q5 : w8.drew.cell? ⟨h, 0, none⟩ = some (.slice none 0 0) := q3
  have q6 : h < w8.heap.size := S8.out.blk.lt
  have q7 : ¬ h = w8.heap.size := by omega
  have q8 : ¬ w8.heap.size = h := by omega
  go_wp2_with fail
  go_region_held_law (fun w' => w'.cell? ⟨h + 1, 0, none⟩ = some (.pointer (some ⟨h, 0, none⟩))) (first | exact q0 | exact (S8.out.keep (below_drew _)).ptr | exact ((S8.out.keep (below_drew _)).keep (below_alloc _ _)).ptr | exact ((S8.out.set0 _).keep (below_alloc _ _)).ptr) (fail)
  go_upto_if 47 with (fail)
  have gO : I < w8.heap.size := gs8
  have T9 : Tch [h] w8 ((w8.setCell ⟨h, 0, none⟩ (.slice (some ⟨w8.heap.size, 0, none⟩) m m)).alloc (zeroRow m)).drew := ((Tch.set w8 h 0 _).trans ((Tch.alloc _ _).more (by simp))).trans ((Tch.drew _).more (by simp))
  have OO : Own ((w8.setCell ⟨h, 0, none⟩ (.slice (some ⟨w8.heap.size, 0, none⟩) m m)).alloc (zeroRow m)).drew 0 1 (some ⟨w8.heap.size, 0, none⟩) m m (List.replicate m (.int .u8 0)) := by
    have h1 := own_zero (w8.setCell ⟨h, 0, none⟩ (.slice (some ⟨w8.heap.size, 0, none⟩) m m)) m hm8.2
    rw [World.size_setCell] at h1
    exact h1.lower (Nat.zero_le _)
  replace D1 := Lib.hid (D1.out.tch T9 (by simp [foot]; omega))
  replace D2 := Lib.hid (D2.out.tch T9 (by simp [foot]; omega))
  replace OI := Lib.hid (OI.out.tch T9 (.inr ⟨I, rfl, by simp; omega⟩))
  have S9 : Nw w ((w8.setCell ⟨h, 0, none⟩ (.slice (some ⟨w8.heap.size, 0, none⟩) m m)).alloc (zeroRow m)).drew h (hmRow (.slice (some ⟨w8.heap.size, 0, none⟩) m m) (.slice (some ⟨I, 0, none⟩) m m) (.iface 132 (.pointer (some ⟨d2, 0, none⟩))) (.iface 132 (.pointer (some ⟨d1, 0, none⟩))) n) := ((S8.out.set0 _).keep (below_alloc _ _)).keep (below_drew _)
  have gs9 : w8.heap.size < ((w8.setCell ⟨h, 0, none⟩ (.slice (some ⟨w8.heap.size, 0, none⟩) m m)).alloc (zeroRow m)).drew.heap.size := by
    show w8.heap.size < ((w8.setCell ⟨h, 0, none⟩ (.slice (some ⟨w8.heap.size, 0, none⟩) m m)).alloc (zeroRow m)).heap.size
    rw [World.size_alloc, World.size_setCell]; omega
  clear q0 q1 q2 q3 q4 q5 q6 q7 q8 T9 S8 gs8
  generalize World.drew (World.alloc (World.setCell w8 _ _) _) = w9 at *
  generalize w8.heap.size = O at *
  replace OO := Lib.hid OO
  replace S9 := Lib.hid S9
  have HKL : Hid ((hmKey kind key).length ≤ 100000 ∧ kind < 64) := Lib.hid ⟨by rcases hmKey_length kind key with h1 | h1; (rw [HN.out] at h1; have := HS.out; omega); (rw [h1]; have := toySize_le kind; omega), hk⟩
  have HKE : Hid (hmKey kind key = if m < n then toySum kind key else key) := Lib.hid (by rw [hmKey, HM.out, HN.out])
  have gh : Hid (h + 1 < d2 ∧ d2 < d1 ∧ d1 < I ∧ I < O ∧ O < w9.heap.size ∧ 8 ≤ m ∧ m ≤ 64 ∧ w.heap.size = h) := Lib.hid ⟨g2, g12, gI, gO, gs9, hm8.1, hm8.2, HHW.out⟩
  clear hmk g2 g12 gI gO gs9 gu hm8 HH hk HHW
  go_cut [1] (fun s1 wx => ∃ K nk ck A2 lo, s1 = .slice K nk ck ∧ Hid ((hmKey kind key).length = nk ∧ Nw w wx h (hmRow (.slice (some ⟨O, 0, none⟩) m m) (.slice (some ⟨I, 0, none⟩) m m) (.iface 132 (.pointer (some ⟨d2, 0, none⟩))) (.iface 132 (.pointer (some ⟨d1, 0, none⟩))) n) ∧ Dg wx d1 kind none [] ∧ Dg wx d2 kind A2 lo ∧ (∀ k ∈ foot d2 A2, k = d2 ∨ O < k) ∧ Own wx 0 1 (some ⟨O, 0, none⟩) m m (List.replicate m (.int .u8 0)) ∧ Own wx 0 1 (some ⟨I, 0, none⟩) m m (List.replicate m (.int .u8 0)) ∧ w9.heap.size ≤ wx.heap.size ∧ ∀ w', Tch [I, O] wx w' → Rd w' K (vs (hmKey kind key))))
  case first =>
    by_cases hgt : m < n
    · have t1 : decide ((m : Int) < n) = true := by simp; omega
      have hg := gh.out
      have hb9 : Rd w9 A (vs key) := HR.out.keep (by rw [hg.2.2.2.2.2.2.2]; exact S9.out.bel)
      have HWR := Lib.hid (digWrite d2 kind none [] key A n c HN.out (by have := HS.out; simp; omega) w9 D2.out hb9)
      have cp := S9.out.ptr
      have c2 := S9.out.cells.2.2.1
      have g1 : ∀ k ∈ foot d2 none, h + 1 < k := by simp [foot]; omega
      clear hb9
      go_wp2_with fail
      refine HWR.out.mono ?_
      rintro e wa ⟨rfl, A2, hD2, hfr, hT⟩
      have SA := Lib.hid (S9.out.tch hT g1)
      have HSU := Lib.hid (digSum d2 kind A2 key HKL.out.2 (by rw [HN.out]; have := HS.out; omega) wa (by simpa using hD2))
      have HD2 := Lib.hid hD2
      have HFR := Lib.hid hfr
      have HT := Lib.hid hT
      clear cp c2 hD2 hfr hT
      have cp := SA.out.ptr
      have c2 := SA.out.cells.2.2.1
      go_wp2_with fail
      refine HSU.out.mono ?_
      rintro e wb ⟨K, ck, rfl, hOK, hHi, hbb⟩
      have hl : (toySum kind key).length = toySize kind := toySum_length _ _
      obtain ⟨nk, hnk⟩ : ∃ nk, toySize kind = nk := ⟨_, rfl⟩
      rw [hnk] at hOK hl ⊢
      have HOK := Lib.hid hOK
      have HHI := Lib.hid hHi
      have HBB := Lib.hid hbb
      have HLL := Lib.hid hl
      clear cp c2 hOK hHi hbb hl hnk
      go_wp2_with fail
      go_meet
      case rel =>
        have T2 := HT.out.trans (Tch.below HBB.out (foot d2 none))
        refine ⟨K, nk, ck, A2, [] ++ key, rfl, Lib.hid ⟨by rw [HKE.out, if_pos hgt, HLL.out], SA.out.keep HBB.out, D1.out.tch T2 (by simp [foot]; omega), HD2.out.keep HBB.out, ?_, OO.out.tch T2 (.inr ⟨O, rfl, by simp [foot]; omega⟩), OI.out.tch T2 (.inr ⟨I, rfl, by simp [foot]; omega⟩), T2.size, ?_⟩⟩
        · intro k hk
          rcases HFR.out.foot k hk with h1 | h1
          · left; simpa [foot] using h1
          · right; omega
        · intro w' ht
          rw [HKE.out, if_pos hgt]
          exact (HOK.out.tch ht (HHI.out.away (by have := HT.out.size; simp; omega))).rd
    · have t1 : decide ((m : Int) < n) = false := by simp; omega
      go_wp2_with fail
      go_meet
      case rel => 
        refine ⟨A, n, c, none, [], rfl, Lib.hid ⟨by rw [HKE.out, if_neg hgt, HN.out], S9.out, D1.out, D2.out, by simp [foot], OO.out, OI.out, Nat.le_refl _, ?_⟩⟩
        intro w' ht
        rw [HKE.out, if_neg hgt]
        have hg := gh.out
        exact HR.out.keep (by rw [hg.2.2.2.2.2.2.2]; exact S9.out.bel.trans ⟨ht.os, ht.tape, ht.output, ht.size, fun k hk => ht.block k (by omega) (by simp; omega)⟩)
  case rest =>
    obtain ⟨K, nk, ck, A2, lo, rfl, hx⟩ := hcut
    clear OO OI D1 D2 S9 HKE HR
    obtain ⟨hx1, hx2, hx3, hx4, hx5, hx6, hx7, hx8, hx9⟩ := hx.out
    have cp := hx2.ptr
    have ci := hx2.cells.2.1
    have HX1 := Lib.hid hx1
    have HX2 := Lib.hid hx2
    have HX3 := Lib.hid hx3
    have HX4 := Lib.hid hx4
    have HX5 := Lib.hid hx5
    have HX6 := Lib.hid hx6
    have HX7 := Lib.hid hx7
    have HX9 := Lib.hid hx9
    have GS := Lib.hid hx8
    clear hx1 hx2 hx3 hx4 hx5 hx6 hx7 hx8 hx9 hx
    have hyl : (vs ((hmKey kind key).take m)).length = Nat.min nk m := by rw [vs_length, List.length_take, HX1.out, Nat.min_comm]
    have hrk : Rd wc K (vs ((hmKey kind key).take m)) := by rw [vs_take]; exact (HX9.out wc (Tch.refl _ _)).take m
    go_wp2_with (with_reducible refine at_copy ?_)
    refine held_copy_any rfl (.tmp 62) (.tmp 63) 51 51 rfl 0 5 Tryd.underlying51 (by kernel_rfl) (k := 0) (p := 0) (by omega) rfl rfl HX7.out (ys := vs ((hmKey kind key).take m)) hyl (by rw [hyl, Nat.zero_add]; exact Nat.min_le_right _ _) hrk (vs_one _) ?_
    intro wa hO1 hg1
    rw [copy_pad] at hO1
    have T1 : Tch [I] wc wa := Tch.grown hg1
    have hg := gh.out
    have HY2 := Lib.hid (HX2.out.tch T1 (by simp; omega))
    have HY6 := Lib.hid (HX6.out.tch T1 (.inr ⟨O, rfl, by simp; omega⟩))
    have hrk2 : Rd wa K (vs ((hmKey kind key).take m)) := by rw [vs_take]; exact (HX9.out wa (T1.more (by simp))).take m
    have HO1 := Lib.hid hO1
    have HT1 := Lib.hid T1
    clear hO1 hg1 T1 hg cp ci hrk
    have cp := HY2.out.ptr
    have ci := HY2.out.cells.1
    go_wp2_with (with_reducible refine at_copy ?_)
    refine held_copy_any rfl (.tmp 68) (.tmp 69) 51 51 rfl 0 5 Tryd.underlying51 (by kernel_rfl) (k := 0) (p := 0) (by omega) rfl rfl HY6.out (ys := vs ((hmKey kind key).take m)) hyl (by rw [hyl, Nat.zero_add]; exact Nat.min_le_right _ _) hrk2 (vs_one _) ?_
    intro wb hO2 hg2
    rw [copy_pad] at hO2
    have T2 : Tch [O] wa wb := Tch.grown hg2
    have hg := gh.out
    have HZ2 := Lib.hid (HY2.out.tch T2 (by simp; omega))
    have HZ7 : Hid (Own wb 0 1 (some ⟨I, 0, none⟩) m m (vs (xorPart 54 0 (padKey m (hmKey kind key))))) := Lib.hid (by rw [xorPart_zero]; exact HO1.out.tch T2 (.inr ⟨I, rfl, by simp; omega⟩))
    have HZ6 : Hid (Own wb 0 1 (some ⟨O, 0, none⟩) m m (vs (xorPart 92 0 (padKey m (hmKey kind key))))) := Lib.hid (by rw [xorPart_zero]; exact hO2)
    have HT2 : Hid (Tch [I, O] wc wb) := Lib.hid ((HT1.out.more (by simp)).trans (T2.more (by simp)))
    clear hO2 hg2 T2 hg cp ci hrk2 hyl HY2 HY6 HO1 HX6 HX7 HX2 HX9 HT1
    have HPL : Hid ((padKey m (hmKey kind key)).length = m) := Lib.hid (padKey_length _ _)
    obtain ⟨pk, hpk⟩ : ∃ pk, padKey m (hmKey kind key) = pk := ⟨_, rfl⟩
    rw [hpk] at HPL HZ6 HZ7
    have HPK := Lib.hid hpk
    have m64 : m ≤ 4294967296 := by have := gh.out; omega
    clear hpk
    have cp := HZ2.out.ptr
    have ci := HZ2.out.cells.2.1
    go_wp2_with fail
    clear cp ci
    go_loopw [76] (fun i wr => ∃ j : Nat, j ≤ m ∧ i = .int .i64 j ∧ Hid (Nw w wr h (hmRow (.slice (some ⟨O, 0, none⟩) m m) (.slice (some ⟨I, 0, none⟩) m m) (.iface 132 (.pointer (some ⟨d2, 0, none⟩))) (.iface 132 (.pointer (some ⟨d1, 0, none⟩))) n) ∧ Own wr 0 1 (some ⟨I, 0, none⟩) m m (vs (xorPart 54 j pk)) ∧ Tch [I] wb wr)) (fun i _ => m - (intOf i).toNat)
    case atStart => exact ⟨0, Nat.zero_le _, rfl, Lib.hid ⟨HZ2.out, HZ7.out, Tch.refl _ _⟩⟩
    case round =>
      obtain ⟨j, hj, rfl, HJ⟩ := hrel
      by_cases hlt : j < m
      · have cp := HJ.out.1.ptr
        have ci := HJ.out.1.cells.2.1
        obtain ⟨cb, fb⟩ := own_vs HJ.out.2.1 j hlt
        rw [xorPart_at 54 j pk (by rw [HPL.out]; exact hlt)] at cb
        have e1 := vs_xor54 (pk.getD j 0)
        have hst := xorPart_step 54 j pk (by rw [HPL.out]; exact hlt)
        obtain ⟨y, hy⟩ : ∃ y, pk.getD j 0 ^^^ 54 = y := ⟨_, rfl⟩
        obtain ⟨x, hx⟩ : ∃ x, (pk.getD j 0).toNat = x := ⟨_, rfl⟩
        rw [hx] at cb
        rw [hy] at hst e1
        rw [hx] at e1
        have HST := Lib.hid hst
        have jw := w64_inc hlt m64
        clear hst hy hx
        go_wp2_with fail
        go_roundw
        case rel =>
          have hg := gh.out
          exact ⟨j + 1, hlt, by first | (rw [jw]; go_num) | go_num, Lib.hid ⟨HJ.out.1.tch (Tch.set _ I j _) (by simp; omega), by rw [← HST.out]; exact own_vs_set HJ.out.2.1 j y hlt, HJ.out.2.2.trans (Tch.set _ I j _)⟩⟩
        case measure => first | exact t_meas hlt | (rw [jw]; exact t_meas hlt)
      · obtain rfl : m = j := by omega
        have hg := gh.out
        have HB2 := Lib.hid HJ.out.1
        have HB7 : Hid (Own wr 0 1 (some ⟨I, 0, none⟩) m m (vs (pk.map (· ^^^ 54)))) := Lib.hid (by have h1 := HJ.out.2.1; rw [← HPL.out, xorPart_all, HPL.out] at h1; exact h1)
        have HB6 := Lib.hid (HZ6.out.tch HJ.out.2.2 (.inr ⟨O, rfl, by simp; omega⟩))
        have HBT : Hid (Tch [I, O] wc wr) := Lib.hid (HT2.out.trans (HJ.out.2.2.more (by simp)))
        clear HJ HZ2 HZ6 HZ7 HT2 hlt hj hg
        have cp := HB2.out.ptr
        have ci := HB2.out.cells.1
        go_wp2_with fail
        clear cp ci
        go_loopw [94] (fun i wq => ∃ j : Nat, j ≤ m ∧ i = .int .i64 j ∧ Hid (Nw w wq h (hmRow (.slice (some ⟨O, 0, none⟩) m m) (.slice (some ⟨I, 0, none⟩) m m) (.iface 132 (.pointer (some ⟨d2, 0, none⟩))) (.iface 132 (.pointer (some ⟨d1, 0, none⟩))) n) ∧ Own wq 0 1 (some ⟨O, 0, none⟩) m m (vs (xorPart 92 j pk)) ∧ Tch [O] wr wq)) (fun i _ => m - (intOf i).toNat)
        case atStart => exact ⟨0, Nat.zero_le _, rfl, Lib.hid ⟨HB2.out, HB6.out, Tch.refl _ _⟩⟩
        case round =>
          rename World => wq
          obtain ⟨j, hj, rfl, HJ⟩ := hrel
          by_cases hlt : j < m
          · have cp := HJ.out.1.ptr
            have ci := HJ.out.1.cells.1
            obtain ⟨cb, fb⟩ := own_vs HJ.out.2.1 j hlt
            rw [xorPart_at 92 j pk (by rw [HPL.out]; exact hlt)] at cb
            have e1 := vs_xor92 (pk.getD j 0)
            have hst := xorPart_step 92 j pk (by rw [HPL.out]; exact hlt)
            obtain ⟨y, hy⟩ : ∃ y, pk.getD j 0 ^^^ 92 = y := ⟨_, rfl⟩
            obtain ⟨x, hx⟩ : ∃ x, (pk.getD j 0).toNat = x := ⟨_, rfl⟩
            rw [hx] at cb
            rw [hy] at hst e1
            rw [hx] at e1
            have HST := Lib.hid hst
            have jw := w64_inc hlt m64
            clear hst hy hx
            go_wp2_with fail
            go_roundw
            case rel =>
              have hg := gh.out
              exact ⟨j + 1, hlt, by first | (rw [jw]; go_num) | go_num, Lib.hid ⟨HJ.out.1.tch (Tch.set _ O j _) (by simp; omega), by rw [← HST.out]; exact own_vs_set HJ.out.2.1 j y hlt, HJ.out.2.2.trans (Tch.set _ O j _)⟩⟩
            case measure => first | exact t_meas hlt | (rw [jw]; exact t_meas hlt)
          · obtain rfl : m = j := by omega
            have hg := gh.out
            have HC2 := Lib.hid HJ.out.1
            have HC6 : Hid (Own wq 0 1 (some ⟨O, 0, none⟩) m m (vs (pk.map (· ^^^ 92)))) := Lib.hid (by have h1 := HJ.out.2.1; rw [← HPL.out, xorPart_all, HPL.out] at h1; exact h1)
            have HC7 := Lib.hid (HB7.out.tch HJ.out.2.2 (.inr ⟨I, rfl, by simp; omega⟩))
            have HCT : Hid (Tch [I, O] wc wq) := Lib.hid (HBT.out.trans (HJ.out.2.2.more (by simp)))
            have D1 := Lib.hid (HX3.out.tch HCT.out (by simp [foot]; omega))
            have D2 := Lib.hid (HX4.out.tch HCT.out (by intro k hk; rcases HX5.out k hk with h1 | h1 <;> (simp; omega)))
            clear HJ HB2 HB6 HB7 HBT hlt hj hg
            have cp := HC2.out.ptr
            have ci := HC2.out.cells.2.1
            have c3 := HC2.out.cells.2.2.2.1
            have SD := HC2.out.keep (below_drew _)
            have HW := Lib.hid (digWrite d1 kind none [] (pk.map (· ^^^ 54)) (some ⟨I, 0, none⟩) m m (by rw [List.length_map, HPL.out]) (by have := gh.out; simp; omega) wq.drew (D1.out.keep (below_drew _)) (HC7.out.keep (below_drew _)).rd)
            have hmw := m_write d1
            have g1 : ∀ k ∈ foot d1 none, h + 1 < k := by have := gh.out; simp [foot]; omega
            go_wp2_with fail
            go_region_held_law (fun w' => w'.cell? ⟨h + 1, 0, none⟩ = some (.pointer (some ⟨h, 0, none⟩)) ∧ w'.cell? ⟨h, 1, none⟩ = some (.slice (some ⟨I, 0, none⟩) m m) ∧ w'.cell? ⟨h, 3, none⟩ = some (.iface 132 (.pointer (some ⟨d1, 0, none⟩))))
              (first | exact ⟨SD.ptr, SD.cells.2.1, SD.cells.2.2.2.1⟩ | exact ⟨SZ.ptr, SZ.cells.2.1, SZ.cells.2.2.2.1⟩)
              (first | (go_at_call 150; with_reducible refine HW.out.mono ?_; rintro e wz ⟨rfl, A1, hD1, hfr, hT⟩; have SZ := SD.tch hT g1))
            have HDZ := Lib.hid hD1
            have HFZ := Lib.hid hfr
            have HTZ := Lib.hid hT
            have HSZ := Lib.hid SZ
            have cpz := SZ.ptr
            clear hD1 hfr hT cp ci c3 SZ SD HW
            go_wp2_with fail
            go_ret
            have hg := gh.out
            obtain ⟨g1, g2, g3, g4, g5, g6, g7, g8⟩ := hg
            have hsz : w9.heap.size ≤ wq.heap.size := Nat.le_trans GS.out HCT.out.size
            have hq2 := D2.out.lt
            have hf1 : ∀ k ∈ foot d1 A1, k = d1 ∨ wq.heap.size ≤ k := by
              intro k hk
              rcases HFZ.out.foot k hk with h1 | h1
              · left; simpa [foot] using h1
              · exact .inr h1
            have hpad : ∀ c, hmPad c kind key = pk.map (· ^^^ c) := fun c => by rw [hmPad, HM.out, HPK.out]
            refine ⟨h, rfl, by omega, ⟨⟨O, I, d1, d2, A1, A2, lo, _, by rw [HM.out]; exact HSZ.out.blk, ?_, by rw [List.append_nil, hpad]; exact HDZ.out, (D2.out.keep (below_drew _)).tch HTZ.out ?_, by omega, Nat.lt_of_lt_of_le (Nat.lt_of_lt_of_le g5 hsz) HTZ.out.size, ?_, ?_⟩, HSZ.out.bel⟩⟩
            · rw [hpad]
              exact ((HC6.out.keep (below_drew _)).tch HTZ.out (.inr ⟨O, rfl, by simp [foot]; omega⟩)).rd
            · intro k hk
              rcases HX5.out k hk with h1 | h1 <;> (simp [foot]; omega)
            · intro k hk
              rcases hf1 k hk with h1 | h1 <;> omega
            · intro k hk
              have hlt := hq2 k hk
              refine ⟨?_, ?_, fun hm => ?_⟩
              · rcases HX5.out k hk with h1 | h1 <;> omega
              · rcases HX5.out k hk with h1 | h1 <;> omega
              · rcases HX5.out k hk with h1 | h1 <;> rcases hf1 k hm with h2 | h2 <;> omega
end Go.Proofs.YtpedkkmoplbdhaaDoor
