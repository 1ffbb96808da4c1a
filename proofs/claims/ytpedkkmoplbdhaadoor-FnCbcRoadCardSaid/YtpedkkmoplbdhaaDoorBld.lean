/- Walks: a builder of bytes: what is added to it. -/
import Derived.Test.YtpedkkmoplbdhaaDoorKeyMsg
import Derived.Test.YtpedkkmoplbdhaaDoorBase
import Derived.Deep.RegionHeld3
namespace Go.Proofs.YtpedkkmoplbdhaaDoor
open Go.RowKit Go.Cv
set_option maxRecDepth 100000
set_option linter.unusedVariables false
def bldRow (A : Option Addr) (n c : Nat) : Array Value := #[.nilIface, .slice A n c, .bool false, .pointer none, .int .i64 0, .int .i64 0, .bool false, .pointer none]
theorem be6 (n : Nat) : vs (be 6 n) = [.int .u8 ((n : Int) / 1099511627776 % 256), .int .u8 ((n : Int) / 4294967296 % 256), .int .u8 ((n : Int) / 16777216 % 256), .int .u8 ((n : Int) / 65536 % 256), .int .u8 ((n : Int) / 256 % 256), .int .u8 ((n : Int) % 256)] := by
  simp [be, vs]
/-- The builder at block p holds the bytes l. -/
def Bld (w : World) (p : Nat) (l : List UInt8) : Prop := ∃ A c, Blk w p 150 (bldRow A l.length c) ∧ Own w (p + 1) 1 A l.length c (vs l) ∧ Hi (p + 1) A
theorem Bld.lt {w : World} {p : Nat} {l : List UInt8} (h : Bld w p l) : p < w.heap.size := h.elim fun A h => h.elim fun c h => h.1.lt
theorem Bld.keep {w w' : World} {p : Nat} {l : List UInt8} (h : Bld w p l) (hb : Below w.heap.size w w') : Bld w' p l := by
  obtain ⟨A, c, h1, h2, h3⟩ := h
  exact ⟨A, c, h1.keep hb, h2.keep hb, h3⟩
theorem add_any (p : Nat) (l k : List UInt8) (Y : Option Addr) (n cY : Nat) (hk : k.length = n) (hs : l.length + n ≤ 100000) (w : World) (hb : Bld w p l) (hr : Rd w Y (vs k)) :
    Calls Tryd.prog 103 #[.pointer (some ⟨p, 0, none⟩), .slice Y n cY] w fun e w' => e = .returned (.tuple #[]) ∧ Bld w' p (l ++ k) ∧ Below p w w' := by
  obtain ⟨A, c, hblk, hown, hA⟩ := hb
  have hlt := hblk.lt
  have c0 := hblk.cell 0
  have c1 := hblk.cell 1
  have c2 := hblk.cell 2
  have c3 := hblk.cell 3
  simp [bldRow] at c0 c1 c2 c3
  obtain ⟨L, hL⟩ : ∃ L, l.length = L := ⟨_, rfl⟩
  rw [hL] at hblk hown c1 hs
  obtain ⟨s, hs'⟩ : ∃ s, L + n = s := ⟨_, rfl⟩
  have e1 : IntKind.i64.wrap ((L : Int) + (n : Int)) = (s : Int) := by rw [IntKind.wrap_i64]; omega
  have e2 : ¬ s < n := by omega
  have HB := Lib.hid hblk
  have HO := Lib.hid hown
  have HS : Hid (L + n ≤ 100000) := hs
  have HE : Hid (L + n = s) := hs'
  have HK : Hid (k.length = n) := hk
  have HL : Hid (l.length = L) := hL
  have HP : Hid (p < w.heap.size) := hlt
  clear hblk hown hs hs' hk hL hlt
  go_enter Tryd.func103, Tryd.ntmps103
  go_wp2_with (at_builtin; refine Held.on ?_)
  go_quiet (fail)
  go_wp2_with (at_builtin; refine Held.on ?_)
  have hW0 : Below w.heap.size w (w.drewN _) := below_drewN (Below.refl _ _) nq
  generalize hW : w.drewN nq = W at *
  have HB' : Hid (Blk W p 150 (bldRow A L c)) := HB.out.below hW0 HP.out
  have HO' : Hid (Own W (p + 1) 1 A L c (vs l)) := HO.out.keep hW0
  have HR : Hid (Rd W Y (vs k)) := hr.keep hW0
  have HP' : Hid (p < W.heap.size) := Nat.lt_of_lt_of_le HP.out hW0.size
  have HW : Hid (Below w.heap.size w W) := hW0
  clear hW hW0 HB HO hr c0 c1 c2 c3
  refine held_append rfl (.tmp 58) (.tmp 59) 51 51 rfl (p + 1) 5 _ 1 1 Tryd.underlying51 (.inl Tryd.underlying51) u8info rfl (by omega) (ys := vs k) rfl rfl HO'.out ⟨by rw [vs_length]; have := HK.out; omega, vs_one _, .inl ⟨_, _, rfl, HR.out⟩⟩ (by have := HS.out; omega) (by have := HS.out; simp only [maxLen]; omega) HP'.out ?_
  intro A2 c4 w2 hO2 hg2 hor2
  have hA2 : Hi (p + 1) A2 := hA.new hor2 HP'.out
  have hB2 : Blk w2 p 150 (bldRow A L c) := HB'.out.tch (Tch.grown hg2) (hA.notin (by omega))
  have c1 := hB2.cell 1
  have f1 := hB2.frozen 1
  simp [bldRow] at c1
  have T2 : Below p w w2 := (HW.out.mono (Nat.le_of_lt HP.out)).grown hg2 (Nat.le_of_lt HP'.out) (fun k hk => by have := hA.inn k (by rw [hk]; simp); omega)
  have HB2 := Lib.hid hB2
  have HO2 := Lib.hid hO2
  have HT := Lib.hid T2
  clear hB2 hO2 hg2 hor2 T2
  go_wp2_with fail
  go_end0
  have hl : (l ++ k).length = L + n := by rw [List.length_append, HL.out, HK.out]
  refine ⟨rfl, ⟨A2, c4, ?_, ?_, hA2⟩, HT.out.setCell (p := ⟨p, 1, none⟩) (Nat.le_refl _) _⟩
  · rw [hl]
    simpa [bldRow] using HB2.out.set_ 1 (.slice A2 (L + n) c4)
  · rw [hl, vs_append]
    exact HO2.out.tch (Tch.set w2 p 1 _) (hA2.away (by simp))
theorem add8_any (p : Nat) (l : List UInt8) (b : Nat) (hb : (b : Int) < 256) (hs : l.length + 1 ≤ 100000) (w : World) (hB : Bld w p l) :
    Calls Tryd.prog 82 #[.pointer (some ⟨p, 0, none⟩), .int .u8 b] w fun e w' => e = .returned (.tuple #[]) ∧ Bld w' p (l ++ be 1 b) ∧ Below p w w' := by
  have HV : Hid (vs (be 1 b) = [.int .u8 (b : Int)]) := by rw [be1]; congr 2; omega
  have HB := Lib.hid hB
  have HS : Hid (l.length + 1 ≤ 100000) := hs
  clear hb hs hB
  go_enter Tryd.func82, Tryd.ntmps82
  go_wp2_with fail
  refine (add_any p l (be 1 b) _ 1 _ (be_length _ _) HS.out _ (HB.out.keep (below_alloc _ _)) (by rw [HV.out]; exact rd_single _ _ _)).mono ?_
  rintro e w2 ⟨rfl, h2, b2⟩
  go_wp2_with fail
  go_end0
  exact ⟨rfl, h2, ((below_alloc w _).mono (Nat.le_of_lt HB.out.lt)).trans b2⟩
theorem add16_any (p : Nat) (l : List UInt8) (b : Nat) (hb : (b : Int) < 65536) (hs : l.length + 2 ≤ 100000) (w : World) (hB : Bld w p l) :
    Calls Tryd.prog 83 #[.pointer (some ⟨p, 0, none⟩), .int .u16 b] w fun e w' => e = .returned (.tuple #[]) ∧ Bld w' p (l ++ be 2 b) ∧ Below p w w' := by
  have HV : Hid (vs (be 2 b) = [.int .u8 ((b : Int) / 256 % 256), .int .u8 ((b : Int) % 256)]) := be2 b
  have HB := Lib.hid hB
  have HS : Hid (l.length + 2 ≤ 100000) := hs
  clear hb hs hB
  go_enter Tryd.func83, Tryd.ntmps83
  go_wp2_with fail
  refine (add_any p l (be 2 b) _ 2 _ (be_length _ _) HS.out _ (HB.out.keep (below_alloc _ _)) (by rw [HV.out]; exact rd_pair _ _ _ _)).mono ?_
  rintro e w2 ⟨rfl, h2, b2⟩
  go_wp2_with fail
  go_end0
  exact ⟨rfl, h2, ((below_alloc w _).mono (Nat.le_of_lt HB.out.lt)).trans b2⟩
theorem add48_any (p : Nat) (l : List UInt8) (b : Nat) (hs : l.length + 6 ≤ 100000) (w : World) (hB : Bld w p l) :
    Calls Tryd.prog 84 #[.pointer (some ⟨p, 0, none⟩), .int .u64 b] w fun e w' => e = .returned (.tuple #[]) ∧ Bld w' p (l ++ be 6 b) ∧ Below p w w' := by
  have HB := Lib.hid hB
  have HS : Hid (l.length + 6 ≤ 100000) := hs
  clear hs hB
  go_enter Tryd.func84, Tryd.ntmps84
  go_wp2_with fail
  refine (add_any p l (be 6 b) _ 6 _ (be_length _ _) HS.out _ (HB.out.keep (below_alloc _ _)) ?_).mono ?_
  · rw [be6]; exact rd_new _ _ _
  rintro e w2 ⟨rfl, h2, b2⟩
  go_wp2_with fail
  go_end0
  exact ⟨rfl, h2, ((below_alloc w _).mono (Nat.le_of_lt HB.out.lt)).trans b2⟩
theorem addOnes_any (p : Nat) (l : List UInt8) (hs : l.length + 8 ≤ 100000) (w : World) (hB : Bld w p l) :
    Calls Tryd.prog 81 #[.pointer (some ⟨p, 0, none⟩), .int .u64 18446744073709551615] w fun e w' => e = .returned (.tuple #[]) ∧ Bld w' p (l ++ List.replicate 8 255) ∧ Below p w w' := by
  have HB := Lib.hid hB
  have HS : Hid (l.length + 8 ≤ 100000) := hs
  clear hs hB
  go_enter Tryd.func81, Tryd.ntmps81
  go_wp2_with fail
  refine (add_any p l (List.replicate 8 255) _ 8 _ rfl HS.out _ (HB.out.keep (below_alloc _ _)) ?_).mono ?_
  · exact rd_new _ _ _
  rintro e w2 ⟨rfl, h2, b2⟩
  go_wp2_with fail
  go_end0
  exact ⟨rfl, h2, ((below_alloc w _).mono (Nat.le_of_lt HB.out.lt)).trans b2⟩
theorem addBytes_any (p : Nat) (l k : List UInt8) (Y : Option Addr) (n cY : Nat) (hk : k.length = n) (hs : l.length + n ≤ 100000) (w : World) (hb : Bld w p l) (hr : Rd w Y (vs k)) :
    Calls Tryd.prog 85 #[.pointer (some ⟨p, 0, none⟩), .slice Y n cY] w fun e w' => e = .returned (.tuple #[]) ∧ Bld w' p (l ++ k) ∧ Below p w w' := by
  have HC := Lib.hid (add_any p l k Y n cY hk hs w hb hr)
  clear hk hs hb hr
  go_enter Tryd.func85, Tryd.ntmps85
  go_wp2_with fail
  refine HC.out.mono ?_
  rintro e w2 ⟨rfl, h2, b2⟩
  go_wp2_with fail
  go_end0
  exact ⟨rfl, h2, b2⟩
theorem bytes_any (p : Nat) (l : List UInt8) (hs : l.length ≤ 100000) (w : World) (hb : Bld w p l) :
    Calls Tryd.prog 86 #[.pointer (some ⟨p, 0, none⟩)] w fun e w' => ∃ A' n' c', e = .returned (.slice A' n' c') ∧ l.length = n' ∧ Rd w' A' (vs l) ∧ Below w.heap.size w w' := by
  obtain ⟨A, c, hblk, hown, hA⟩ := hb
  have c0 := hblk.cell 0
  have c1 := hblk.cell 1
  have c4 := hblk.cell 4
  simp [bldRow] at c0 c1 c4
  obtain ⟨L, hL⟩ : ∃ L, l.length = L := ⟨_, rfl⟩
  rw [hL] at hblk hown c1 hs
  have hLc : L ≤ c := hown.2.1
  have HR := Lib.hid hown.rd
  have HL : Hid (l.length = L) := hL
  clear hblk hown hs hL
  go_enter Tryd.func86, Tryd.ntmps86
  go_wp2_with fail
  go_quiet (fail)
  go_wp2_with fail
  go_ret
  exact ⟨_, _, _, rfl, HL.out, HR.out.keep (below_drewN (Below.refl _ _) nq), below_drewN (Below.refl _ _) nq⟩
end Go.Proofs.YtpedkkmoplbdhaaDoor
