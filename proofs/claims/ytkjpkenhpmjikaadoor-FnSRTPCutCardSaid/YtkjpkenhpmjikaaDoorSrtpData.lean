/- Walks: SRTP profiles, told as data. -/
import Derived.Test.YtkjpkenhpmjikaaDoorSrtpOk
import Derived.Test.YtkjpkenhpmjikaaDoorNums
import Derived.Test.YtkjpkenhpmjikaaDoorExt
namespace Go.Proofs.YtkjpkenhpmjikaaDoor
open Go.RowKit Go.Cv
set_option maxRecDepth 100000
set_option linter.unusedVariables false
theorem u16inf : (Tryd.prog.info? 24).map (fun i => (i.zero, i.size, i.bytes)) = some (some (.int .u16 0), 1, 2) := by kernel_rfl
def srMsg (s : List UInt8) (A : Option Addr) (n c : Nat) : Array Value := #[.int .u16 14, .string (S s), .slice none 0 0, .slice A n c, .slice none 0 0, .bool false, .int .u32 0, .bool false, .slice none 0 0, .slice none 0 0, .slice none 0 0, .slice none 0 0, .slice none 0 0]
set_option maxHeartbeats 1000000 in
theorem dataSRTP_any (g b o n c m c2 : Nat) (A0 : Option Addr) (l : List Nat) (mki : List UInt8) (w : World) (hk : Blk w g 79 #[.slice (some ⟨b, o, none⟩) n c, .slice A0 m c2]) (hmm : mki.length = m) (hr0 : Rd w A0 (vs mki)) (hn : l.length = n) (hn2 : (n : Int) ≤ 1000) (hr : Rd w (some ⟨b, o, none⟩) (zv l)) (hbs : b < w.heap.size) :
    Calls Tryd.prog 44 #[.pointer (some ⟨g, 0, none⟩)] w fun e w' => ∃ A' c', e = .returned (.agg (srMsg mki A' n c')) ∧ Below w.heap.size w w' := by
  have hgs := hk.lt
  go_enter Tryd.func44, Tryd.ntmps44
  go_wp2_with (with_reducible refine Held.store 35 ?_)
  refine held_store_at (g := w.heap.size + 1) (by simp) (cells := srMsg [] none 0 0) extInfo rfl rfl rfl (by simp [srMsg, Value.oneCell']) fun w1 hm hb' hsz => ?_
  have hb := below_two (below_alloc w _) hb'
  have hM := (Blk.new w 35 _).keep hb'
  have q0 := (hk.keep hb).cell 0
  simp at q0
  have HM := Lib.hid hm
  have HM0 := Lib.hid hM
  have HR := Lib.hid (hr.keep hb)
  have HRX : Hid (∀ wr, Tch [w.heap.size + 1] w1 wr → Rd wr A0 (vs mki)) := fun wr ht => by
    rcases hr0 with h | ⟨b0, o0, rfl, h⟩
    · exact .inl h
    · refine .inr ⟨b0, o0, rfl, fun i v hi => ?_⟩
      have hb0 := block_lt (h i v hi)
      exact ht.cell (keep_of_below hb _ _ (h i v hi)) (by simp only at hb0; simp; omega)
  have HKG := Lib.hid (hk.keep hb)
  have HMK := Lib.hid hmm
  have HB := Lib.hid hb
  have HL := Lib.hid hn
  have HT : Hid (Tch [w.heap.size, w.heap.size + 1] w1 w1) := Tch.refl _ _
  clear hk hm hM hr hr0 hb hb' hn hmm
  go_wp2_with fail
  go_loopw [12] (fun i wr => ∃ j : Nat, j ≤ n ∧ i = .int .i64 j ∧ ∃ A c', (A = none ∨ ∃ a, A = some ⟨a, 0, none⟩ ∧ w.heap.size + 2 ≤ a) ∧ Blk wr (w.heap.size + 1) 35 (srMsg [] A j c') ∧ Own wr (w.heap.size + 2) 1 A j c' (zv (l.take j)) ∧ Tch [w.heap.size + 1] w1 wr) (fun i _ => n - (intOf i).toNat)
  case atStart => exact ⟨0, Nat.zero_le _, rfl, none, 0, .inl rfl, HM.out, Own.nil _ _ _, Tch.refl _ _⟩
  case round =>
    obtain ⟨j, hj, rfl, A, c', hA, hkr, hor, htr⟩ := hrel
    have HKR := Lib.hid hkr
    have HOR := Lib.hid hor
    have HTR := Lib.hid htr
    have LR := htr.size
    have HRR := Lib.hid (HR.out.tch htr (by simp; omega))
    have q3 := hkr.cell 3
    have f3 := hkr.frozen 3
    simp [srMsg] at q3
    clear hkr hor htr
    by_cases hlt : j < n
    · have hc := numCell HRR.out j (by rw [HL.out]; exact hlt)
      obtain ⟨m, hm⟩ : ∃ m, l.getD j 0 = m := ⟨_, rfl⟩
      rw [hm] at hc
      have HMM := Lib.hid hm
      have hj1 : (j : Int) ≤ 1000 := by omega
      clear hm
      go_wp2_with (at_builtin; refine Held.on ?_)
      have hrow : Rd (wr.alloc (.cells #[.int .u16 m] 24)) (some ⟨wr.heap.size, 0, none⟩) (zv [m]) := by
        refine .inr ⟨_, _, rfl, fun k v hk => ?_⟩
        cases k with
        | zero => simp [zv] at hk; subst hk; simp
        | succ k => simp [zv] at hk
      refine held_append rfl (.tmp 17) (.tmp 19) 22 22 rfl (w.heap.size + 2) 24 _ 1 2 Tryd.underlying22 (.inl Tryd.underlying22) u16inf rfl (by omega) (xs := zv (l.take j)) (ys := zv [m]) rfl rfl (HOR.out.keep (below_alloc _ _)) ⟨by simp [zv], by intro v h; simp [zv] at h; subst h; rfl, .inl ⟨_, _, rfl, hrow⟩⟩ (by omega) (by simp only [maxLen]; omega) (by simp; omega) ?_
      intro A2 c2 w9 hO9 hg9 hor9
      have hA2 : A2 = none ∨ ∃ a, A2 = some ⟨a, 0, none⟩ ∧ w.heap.size + 2 ≤ a := by
        rcases hor9 with ⟨rfl, _⟩ | rfl
        · exact hA
        · exact .inr ⟨_, rfl, by simp; omega⟩
      have t9 : Tch (A.map (·.block)).toList wr w9 := ((Tch.alloc wr _).more (by simp)).trans (Tch.grown hg9)
      have hk9 := HKR.out.tch t9 (by rcases hA with rfl | ⟨a, rfl, ha⟩ <;> simp <;> omega)
      have q9 := hk9.cell 3
      have f9 := hk9.frozen 3
      simp [srMsg] at q9
      have TS := Tch.set w9 (w.heap.size + 1) 3 (.slice A2 (j + 1) c2)
      have HK9 := Lib.hid hk9
      have HO9 := Lib.hid hO9
      have HT9 := Lib.hid (HTR.out.then t9 (by rcases hA with rfl | ⟨a, rfl, ha⟩ <;> simp <;> omega))
      clear hO9 hg9 hor9 t9 hk9 hrow q3 f3
      go_wp2_with fail
      go_roundw
      case rel =>
        have hK := HK9.out.set_ 3 (.slice A2 (j + 1) c2)
        refine ⟨j + 1, by omega, by go_num, A2, c2, hA2, by simpa [srMsg] using hK, ?_, HT9.out.trans TS⟩
        have h := HO9.out.grown TS.toGrown (by rcases hA2 with rfl | ⟨a, rfl, ha⟩ <;> simp <;> omega)
        have e : zv (l.take j) ++ zv [m] = zv (l.take (j + 1)) := by
          rw [← HMM.out]; exact zv_snoc l j (by rw [HL.out]; exact hlt)
        rw [e] at h
        exact h
      case measure => simp [intOf]; omega
    · obtain rfl : j = n := by omega
      have hM := HM0.out.tch HTR.out (by simp)
      have hbr : Below w.heap.size w wr := HB.out.trans ⟨HTR.out.os, HTR.out.tape, HTR.out.output, HTR.out.size, fun k hk => HTR.out.block k (by omega) (by simp; omega)⟩
      have HMM := Lib.hid hM
      have HBR := Lib.hid hbr
      have kg := (HKG.out.tch HTR.out (by simp; omega)).cell 1
      have q1 := HKR.out.cell 1
      have f1 := HKR.out.frozen 1
      have hRR : Hid (Rd wr A0 (vs mki)) := HRX.out wr HTR.out
      clear hM hbr q3 f3
      simp [srMsg] at kg q1
      go_wp2_with fail
      refine upon_conv_bs 54 9 5 Tryd.underlying54 Tryd.underlying5 Tryd.underlying9 mki A0 m c2 HMK.out hRR.out ?_
      go_wp2_with (with_reducible refine Held.load 35 ?_)
      refine held_load_row (cs := srMsg mki A j c') (by simpa [srMsg] using HKR.out.set_ 1 (.string (S mki))) Tryd.underlying35 extInfo rfl ?_
      have TS := Tch.set wr (w.heap.size + 1) 1 (.string (S mki))
      have HM4 := Lib.hid (HMM.out.tch TS (by simp))
      have HB4 := Lib.hid (HBR.out.setCell (p := ⟨w.heap.size + 1, 1, none⟩) (by simp) (.string (S mki)))
      clear TS
      go_wp2_with (with_reducible refine Held.store 35 ?_)
      refine held_store_row (cells := srMsg mki A j c') HM4.out extInfo rfl rfl rfl (by simp [srMsg, Value.oneCell']) fun w3 hk3 hg3 _ => ?_
      go_wp2_with fail
      exact bodyPost_cell rfl rfl rfl hk3 Tryd.underlying35 extInfo ⟨_, _, rfl, HB4.out.grown hg3 HB4.out.size (fun k hk' => by simp at hk'; omega)⟩
end Go.Proofs.YtkjpkenhpmjikaaDoor
