/- Walks: a builder of bytes: what is added to it, among rows that are kept. -/
import Derived.Test.YtohankdfnjogfaaDoorBp
import Derived.Test.YtohankdfnjogfaaDoorBig
import Derived.Deep.RegionHeldLaw
import Derived.StillTailTactics
import Derived.Outline
namespace Go.Proofs.YtohankdfnjogfaaDoor
open Go.RowKit Go.Cv
set_option maxRecDepth 100000
set_option linter.unusedVariables false
def bldR (A : Option Addr) (n c : Nat) (ch ic : Value) (off pl : Nat) : Array Value := #[.nilIface, .slice A n c, .bool false, ch, .int .i64 (off : Int), .int .i64 (pl : Int), .bool false, ic]
/-- The builder at block p holds the bytes l. -/
def BP (P : Nat → Prop) (w : World) (p : Nat) (ic : Value) (off pl : Nat) (l : List UInt8) : Prop :=
  ∃ A c, Blk w p 54 (bldR A l.length c (.pointer none) ic off pl) ∧ Own w 0 1 A l.length c (vs l) ∧ Away P p A w ∧ ¬ P p ∧ (∀ k, P k → k < w.heap.size)
theorem BP.lt {P : Nat → Prop} {w : World} {p off pl : Nat} {ic : Value} {l : List UInt8} (h : BP P w p ic off pl l) : p < w.heap.size := by
  obtain ⟨A, c, h1, _⟩ := h; exact h1.lt
theorem BP.keep {P : Nat → Prop} {w w' : World} {p off pl : Nat} {ic : Value} {l : List UInt8} (h : BP P w p ic off pl l) (hb : Below w.heap.size w w') : BP P w' p ic off pl l := by
  obtain ⟨A, c, h1, h2, h3, h4, h5⟩ := h
  exact ⟨A, c, h1.keep hb, h2.keep hb, h3.more hb.size, h4, fun k hk => Nat.lt_of_lt_of_le (h5 k hk) hb.size⟩
set_option maxHeartbeats 1000000 in
theorem addP_any (P : Nat → Prop) (p : Nat) (ic : Value) (off pl : Nat) (l k : List UInt8) (Y : Option Addr) (n cY : Nat) (hk : k.length = n) (h0 : 0 < l.length + n) (hs : l.length + n ≤ 300000) (w : World) (hb : BP P w p ic off pl l) (hr : Rd w Y (vs k)) :
    Calls Tryd.prog 28 #[.pointer (some ⟨p, 0, none⟩), .slice Y n cY] w fun e w' => e = .returned (.tuple #[]) ∧ BP P w' p ic off pl (l ++ k) ∧ Kp P w w' := by
  obtain ⟨A, c, hblk, hown, hA, hPp, hPl⟩ := hb
  have hlt := hblk.lt
  have c0 := hblk.cell 0
  have c1 := hblk.cell 1
  have c2 := hblk.cell 2
  have c3 := hblk.cell 3
  simp [bldR] at c0 c1 c2 c3
  obtain ⟨L, hL⟩ : ∃ L, l.length = L := ⟨_, rfl⟩
  rw [hL] at hblk hown c1 hs h0
  obtain ⟨s, hs'⟩ : ∃ s, L + n = s := ⟨_, rfl⟩
  have e1 : IntKind.i64.wrap ((L : Int) + (n : Int)) = (s : Int) := by rw [IntKind.wrap_i64]; omega
  have e2 : ¬ s < n := by omega
  have HB := Lib.hid hblk
  have HO := Lib.hid hown
  have HS : Hid (L + n ≤ 300000) := hs
  have H0 : Hid (0 < L + n) := h0
  have HE : Hid (L + n = s) := hs'
  have HK : Hid (k.length = n) := hk
  have HL : Hid (l.length = L) := hL
  have HP : Hid (p < w.heap.size) := hlt
  have HPP : Hid (¬ P p) := hPp
  have HPL : Hid (∀ k, P k → k < w.heap.size) := hPl
  clear hblk hown h0 hs hs' hk hL hlt hPp hPl
  go_enter Tryd.func28, Tryd.ntmps28
  go_wp2_with (at_builtin; refine Held.on ?_)
  go_quiet (fail)
  go_wp2_with (at_builtin; refine Held.on ?_)
  have hW0 : Below w.heap.size w (w.drewN _) := below_drewN (Below.refl _ _) nq
  generalize hW : w.drewN nq = W at *
  have HB' : Hid (Blk W p 54 (bldR A L c (.pointer none) ic off pl)) := HB.out.below hW0 HP.out
  have HO' : Hid (Own W 0 1 A L c (vs l)) := HO.out.keep hW0
  have HR : Hid (Rd W Y (vs k)) := hr.keep hW0
  have HP' : Hid (p < W.heap.size) := Nat.lt_of_lt_of_le HP.out hW0.size
  have HPL' : Hid (∀ k, P k → k < W.heap.size) := fun k hk => Nat.lt_of_lt_of_le (HPL.out k hk) hW0.size
  have HA' : Hid (Away P p A W) := hA.more hW0.size
  have HW : Hid (Below w.heap.size w W) := hW0
  clear hW hW0 HB HO hr c0 c1 c2 c3 hA
  refine held_append rfl (.tmp 58) (.tmp 59) 30 30 rfl 0 5 _ 1 1 Tryd.underlying30 (.inl Tryd.underlying30) u8info rfl (by omega) (ys := vs k) rfl rfl HO'.out ⟨by rw [vs_length]; have := HK.out; omega, vs_one _, .inl ⟨_, _, rfl, HR.out⟩⟩ (by have := HS.out; omega) (by have := HS.out; simp only [maxLen]; omega) (Nat.zero_le _) ?_
  intro A2 c4 w2 hO2 hg2 hor2
  have hne : some p ≠ A.map (·.block) := fun e => (HA'.out.notP p e.symm).2 rfl
  have hB2 : Blk w2 p 54 (bldR A L c (.pointer none) ic off pl) := HB'.out.grown hg2 hne
  have hA2 : Away P p A2 w2 := HA'.out.new HPL'.out HP'.out hor2 hg2.size (fun e => by
    have h := hO2
    rw [e] at h
    exact h.there H0.out)
  have hK2 : Kp P w w2 := (Kp.below HW.out).trans (Kp.grown hg2 (fun k hk => (HA'.out.notP k hk).1))
  have c1 := hB2.cell 1
  have f1 := hB2.frozen 1
  simp [bldR] at c1
  have HB2 := Lib.hid hB2
  have HO2 := Lib.hid hO2
  have HA2 := Lib.hid hA2
  have HK2 := Lib.hid hK2
  clear hB2 hO2 hg2 hor2 hA2 hK2
  go_wp2_with fail
  go_end0
  have hl : (l ++ k).length = L + n := by rw [List.length_append, HL.out, HK.out]
  have TS := Kp.set P w2 p 1 (.slice A2 (L + n) c4) HPP.out
  refine ⟨rfl, ⟨A2, c4, ?_, ?_, HA2.out.more TS.size, HPP.out, fun k hk => Nat.lt_of_lt_of_le (HPL.out k hk) (HK2.out.trans TS).size⟩, HK2.out.trans TS⟩
  · rw [hl]
    simpa [bldR] using HB2.out.set_ 1 (.slice A2 (L + n) c4)
  · rw [hl, vs_append]
    refine HO2.out.tch (Tch.set w2 p 1 _) ?_
    rcases HA2.out with h | ⟨a, h, _, h3, _⟩
    · exact .inl h
    · exact .inr ⟨a, h, by simpa using h3⟩
theorem addP16_any (P : Nat → Prop) (p : Nat) (ic : Value) (off pl : Nat) (l : List UInt8) (b : Nat) (hs : l.length + 2 ≤ 300000) (w : World) (hB : BP P w p ic off pl l) :
    Calls Tryd.prog 20 #[.pointer (some ⟨p, 0, none⟩), .int .u16 b] w fun e w' => e = .returned (.tuple #[]) ∧ BP P w' p ic off pl (l ++ be 2 b) ∧ Kp P w w' := by
  have HV : Hid (vs (be 2 b) = [.int .u8 ((b : Int) / 256 % 256), .int .u8 ((b : Int) % 256)]) := by show _ = _; simp [be, vs]
  have HB := Lib.hid hB
  have HS : Hid (l.length + 2 ≤ 300000) := hs
  clear hs hB
  go_enter Tryd.func20, Tryd.ntmps20
  go_wp2_with fail
  refine (addP_any P p ic off pl l (be 2 b) _ 2 _ (be_length _ _) (Nat.lt_of_lt_of_le (by decide) (Nat.le_add_left 2 _)) HS.out _ (HB.out.keep (below_alloc _ _)) (by rw [HV.out]; exact rd_pair _ _ _ _)).mono ?_
  rintro e w2 ⟨rfl, h2, b2⟩
  go_wp2_with fail
  go_end0
  exact ⟨rfl, h2, (Kp.alloc P w _).trans b2⟩
theorem addPBytes_any (P : Nat → Prop) (p : Nat) (ic : Value) (off pl : Nat) (l k : List UInt8) (Y : Option Addr) (n cY : Nat) (hk : k.length = n) (h0 : 0 < l.length + n) (hs : l.length + n ≤ 300000) (w : World) (hb : BP P w p ic off pl l) (hr : Rd w Y (vs k)) :
    Calls Tryd.prog 23 #[.pointer (some ⟨p, 0, none⟩), .slice Y n cY] w fun e w' => e = .returned (.tuple #[]) ∧ BP P w' p ic off pl (l ++ k) ∧ Kp P w w' := by
  have HC := Lib.hid (addP_any P p ic off pl l k Y n cY hk h0 hs w hb hr)
  clear hk h0 hs hb hr
  go_enter Tryd.func23, Tryd.ntmps23
  go_wp2_with fail
  refine HC.out.mono ?_
  rintro e w2 ⟨rfl, h2, b2⟩
  go_wp2_with fail
  go_end0
  exact ⟨rfl, h2, b2⟩
theorem bytesP_any (P : Nat → Prop) (p : Nat) (ic : Value) (pl : Nat) (l : List UInt8) (h0 : 0 < l.length) (w : World) (hb : BP P w p ic 0 pl l) :
    Calls Tryd.prog 25 #[.pointer (some ⟨p, 0, none⟩)] w fun e w' => ∃ A' n' c', e = .returned (.tuple #[.slice A' n' c', .nilIface]) ∧ l.length = n' ∧ Rd w' A' (vs l) ∧ Below w.heap.size w w' := by
  obtain ⟨A, c, hblk, hown, hA, _⟩ := hb
  have c0 := hblk.cell 0
  have c1 := hblk.cell 1
  have c4 := hblk.cell 4
  simp [bldR] at c0 c1 c4
  obtain ⟨L, hL⟩ : ∃ L, l.length = L := ⟨_, rfl⟩
  rw [hL] at hblk hown c1 h0
  have hLc : L ≤ c := hown.2.1
  have hc0 : ¬ c = 0 := by omega
  have i1 : (0 : Int) ≤ L := by omega
  have HR := Lib.hid hown.rd
  have HL : Hid (l.length = L) := hL
  clear hblk hown hL h0
  go_enter Tryd.func25, Tryd.ntmps25
  go_wp2_with fail
  go_quiet (fail)
  go_wp2_with fail
  go_ret2
  exact ⟨_, _, _, rfl, HL.out, HR.out.keep (below_drewN (Below.refl _ _) nq), below_drewN (Below.refl _ _) nq⟩
end Go.Proofs.YtohankdfnjogfaaDoor
