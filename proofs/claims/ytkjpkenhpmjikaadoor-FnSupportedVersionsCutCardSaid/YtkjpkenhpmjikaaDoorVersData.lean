/- Walks: supported versions, told as data. -/
import Derived.Test.YtkjpkenhpmjikaaDoorVersOk
import Derived.Test.YtkjpkenhpmjikaaDoorNums
import Derived.Outline
namespace Go.Proofs.YtkjpkenhpmjikaaDoor
open Go.RowKit Go.Cv
set_option maxRecDepth 100000
set_option linter.unusedVariables false
theorem u16inf : (Tryd.prog.info? 24).map (fun i => (i.zero, i.size, i.bytes)) = some (some (.int .u16 0), 1, 2) := by kernel_rfl
def nmMsg (t : Int) (A : Option Addr) (n c : Nat) : Array Value := #[.int .u16 t, .string (S []), .slice none 0 0, .slice A n c, .slice none 0 0, .bool false, .int .u32 0, .bool false, .slice none 0 0, .slice none 0 0, .slice none 0 0, .slice none 0 0, .slice none 0 0]
set_option maxHeartbeats 1000000 in
theorem dataVers_any (g b o n c : Nat) (l : List UInt8) (w : World) (hk : Blk w g 126 #[.slice (some ⟨b, o, none⟩) n c]) (hn : l.length = 2 * n) (hn2 : (n : Int) < 256) (hr : Rd w (some ⟨b, o, none⟩) (vs l)) (hbs : b < w.heap.size) :
    Calls Tryd.prog 68 #[.pointer (some ⟨g, 0, none⟩)] w fun e w' => ∃ A' c', e = .returned (.agg (nmMsg 43 A' n c')) ∧ Below w.heap.size w w' := by
  have hgs := hk.lt
  go_enter Tryd.func68, Tryd.ntmps68
  go_wp2_with (with_reducible refine Held.store 35 ?_)
  refine held_store_at (g := w.heap.size + 1) (by simp) (cells := nmMsg 43 none 0 0) extInfo rfl rfl rfl (by simp [nmMsg, Value.oneCell']) fun w1 hm hb' hsz => ?_
  have hb := below_two (below_alloc w _) hb'
  have hM := (Blk.new w 35 _).keep hb'
  have q0 := (hk.keep hb).cell 0
  simp at q0
  have HM := Lib.hid hm
  have HM0 := Lib.hid hM
  have HR := Lib.hid (hr.keep hb)
  have HB := Lib.hid hb
  have HL := Lib.hid hn
  have L1 : w.heap.size + 2 ≤ w1.heap.size := by (try simp at hsz); omega
  clear hk hm hM hr hb hb' hn hsz
  go_wp2_with fail
  go_loopw [12] (fun i wr => ∃ j : Nat, j ≤ n ∧ i = .int .i64 j ∧ ∃ A c' xs, Hi w1.heap.size A ∧ Blk wr (w.heap.size + 1) 35 (nmMsg 43 A j c') ∧ Own wr (w.heap.size + 2) 1 A j c' xs ∧ Tch [w.heap.size + 1] w1 wr) (fun i _ => n - (intOf i).toNat)
  case atStart => exact ⟨0, Nat.zero_le _, rfl, none, 0, [], .inl rfl, HM.out, Own.nil _ _ _, Tch.refl _ _⟩
  case round =>
    obtain ⟨j, hj, rfl, A, c', xs, hA, hkr, hor, htr⟩ := hrel
    have HKR := Lib.hid hkr
    have HOR := Lib.hid hor
    have HTR := Lib.hid htr
    have LR := htr.size
    have LA : w.heap.size + 1 < wr.heap.size := by omega
    have HRR := Lib.hid (HR.out.tch htr (by simp; omega))
    have q3 := hkr.cell 3
    have f3 := hkr.frozen 3
    simp [nmMsg] at q3
    clear hkr hor htr
    by_cases hlt : j < n
    · have hc0 := HRR.out.byte (j * 2) (by rw [HL.out]; omega)
      have hc1 := HRR.out.byte (j * 2 + 1) (by rw [HL.out]; omega)
      have hm8 := (l.getD (j * 2) 0).toNat_lt
      have hn8 := (l.getD (j * 2 + 1) 0).toNat_lt
      obtain ⟨x, hx⟩ : ∃ x : Nat, (l.getD (j * 2) 0).toNat = x := ⟨_, rfl⟩
      obtain ⟨y, hy⟩ : ∃ y : Nat, (l.getD (j * 2 + 1) 0).toNat = y := ⟨_, rfl⟩
      rw [hx] at hc0 hm8
      rw [hy, ← Nat.add_assoc] at hc1
      rw [hy] at hn8
      clear hx hy
      have m1 : (x : Int) % 65536 = x := by omega
      have m2 : (y : Int) % 65536 = y := by omega
      have m3 : (x : Int) * 256 % 65536 = x * 256 := by omega
      have hor := or16 x y (by omega) (by omega)
      have HX8 := Lib.hid hm8
      have HY8 := Lib.hid hn8
      clear hm8 hn8
      go_wp2_with (at_builtin; refine Held.on ?_)
      have hrow := rd_single (wr.alloc (.cells #[.int .u8 (x : Int), .int .u8 (y : Int)] 181)) 24 (.int .u16 ((x : Int) * 256 + y))
      rw [World.size_alloc] at hrow
      refine held_append rfl (.tmp 17) (.tmp 26) 22 22 rfl (w.heap.size + 2) 24 _ 1 2 Tryd.underlying22 (.inl Tryd.underlying22) u16inf rfl (by omega) (xs := xs) (ys := [.int .u16 ((x : Int) * 256 + y)]) rfl rfl ((HOR.out.keep (below_alloc _ _)).keep (below_alloc _ _)) ⟨rfl, by intro v h; simp at h; subst h; rfl, .inl ⟨_, _, rfl, hrow⟩⟩ (by omega) (by simp only [maxLen]; omega) (by simp; omega) ?_
      intro A2 c2 w9 hO9 hg9 hor9
      have t9 : Tch (A.map (·.block)).toList wr w9 := (((Tch.alloc wr _).trans (Tch.alloc _ _)).more (by simp)).trans (Tch.grown hg9)
      have hA2 : Hi w1.heap.size A2 := hA.new hor9 (by simp; omega)
      have hk9 := HKR.out.tch t9 (hA.notin (by omega))
      have q9 := hk9.cell 3
      have f9 := hk9.frozen 3
      simp [nmMsg] at q9
      have TS := Tch.set w9 (w.heap.size + 1) 3 (.slice A2 (j + 1) c2)
      have HK9 := Lib.hid hk9
      have HO9 := Lib.hid hO9
      have HT9 := Lib.hid (HTR.out.then t9 (fun k hk => .inr (hA.inn k hk)))
      clear hO9 hg9 hor9 t9 hk9 q3 f3 hor hc0 hc1 hrow
      go_wp2_with fail
      go_roundw
      case rel =>
        have hK := HK9.out.set_ 3 (.slice A2 (j + 1) c2)
        exact ⟨j + 1, by omega, by go_num, A2, c2, _, hA2, by simpa [nmMsg] using hK, HO9.out.tch TS (hA2.away (by simp; omega)), HT9.out.trans TS⟩
      case measure => simp [intOf]; omega
    · obtain rfl : j = n := by omega
      have hM := HM0.out.tch HTR.out (by simp)
      have hbr : Below w.heap.size w wr := HB.out.trans ⟨HTR.out.os, HTR.out.tape, HTR.out.output, HTR.out.size, fun k hk => HTR.out.block k (by omega) (by simp; omega)⟩
      have HMM := Lib.hid hM
      have HBR := Lib.hid hbr
      clear hM hbr q3 f3
      go_wp2_with (with_reducible refine Held.load 35 ?_)
      refine held_load_row (cs := nmMsg 43 A j c') HKR.out Tryd.underlying35 extInfo rfl ?_
      go_wp2_with (with_reducible refine Held.store 35 ?_)
      refine held_store_row (cells := nmMsg 43 A j c') HMM.out extInfo rfl rfl rfl (by simp [nmMsg, Value.oneCell']) fun w3 hk3 hg3 _ => ?_
      go_wp2_with fail
      exact bodyPost_cell rfl rfl rfl hk3 Tryd.underlying35 extInfo ⟨_, _, rfl, HBR.out.grown hg3 HBR.out.size (fun k hk' => by simp at hk'; omega)⟩
end Go.Proofs.YtkjpkenhpmjikaaDoor
