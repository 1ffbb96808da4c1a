/- Walks: modes of pre-shared keys, told as data. -/
import Derived.Test.YtgnkfpfgolhokaaDoorPskMOk
import Derived.Test.YtgnkfpfgolhokaaDoorNums
import Derived.Test.YtgnkfpfgolhokaaDoorExt
namespace Go.Proofs.YtgnkfpfgolhokaaDoor
open Go.RowKit Go.Cv
set_option maxRecDepth 100000
set_option linter.unusedVariables false
theorem u16inf : (Tryd.prog.info? 24).map (fun i => (i.zero, i.size, i.bytes)) = some (some (.int .u16 0), 1, 2) := by kernel_rfl
def pmMsg (A : Option Addr) (n c : Nat) : Array Value := #[.int .u16 45, .string (S []), .slice none 0 0, .slice A n c, .slice none 0 0, .bool false, .int .u32 0, .bool false, .slice none 0 0, .slice none 0 0, .slice none 0 0, .slice none 0 0, .slice none 0 0]
set_option maxHeartbeats 1000000 in
theorem dataPskm_any (g b o n c : Nat) (l : List UInt8) (w : World) (hk : Blk w g 75 #[.slice (some ⟨b, o, none⟩) n c]) (hn : l.length = n) (hn2 : (n : Int) < 256) (hr : Rd w (some ⟨b, o, none⟩) (vs l)) (hbs : b < w.heap.size) :
    Calls Tryd.prog 39 #[.pointer (some ⟨g, 0, none⟩)] w fun e w' => ∃ A' c', e = .returned (.agg (pmMsg A' n c')) ∧ Below w.heap.size w w' := by
  have hgs := hk.lt
  go_enter Tryd.func39, Tryd.ntmps39
  go_wp2_with (with_reducible refine Held.store 34 ?_)
  refine held_store_at (g := w.heap.size + 1) (by simp) (cells := pmMsg none 0 0) extInfo rfl rfl rfl (by simp [pmMsg, Value.oneCell']) fun w1 hm hb' hsz => ?_
  have hb := below_two (below_alloc w _) hb'
  have hM := (Blk.new w 34 _).keep hb'
  have q0 := (hk.keep hb).cell 0
  simp at q0
  have HM := Lib.hid hm
  have HM0 := Lib.hid hM
  have HR := Lib.hid (hr.keep hb)
  have HB := Lib.hid hb
  have HL := Lib.hid hn
  have HT : Hid (Tch [w.heap.size, w.heap.size + 1] w1 w1) := Tch.refl _ _
  clear hk hm hM hr hb hb' hn
  go_wp2_with fail
  go_loopw [12] (fun i wr => ∃ j : Nat, j ≤ n ∧ i = .int .i64 j ∧ ∃ A c', (A = none ∨ ∃ a, A = some ⟨a, 0, none⟩ ∧ w.heap.size + 2 ≤ a) ∧ Blk wr (w.heap.size + 1) 34 (pmMsg A j c') ∧ Own wr (w.heap.size + 2) 1 A j c' (zv ((l.take j).map UInt8.toNat)) ∧ Tch [w.heap.size + 1] w1 wr) (fun i _ => n - (intOf i).toNat)
  case atStart => exact ⟨0, Nat.zero_le _, rfl, none, 0, .inl rfl, HM.out, Own.nil _ _ _, Tch.refl _ _⟩
  case round =>
    obtain ⟨j, hj, rfl, A, c', hA, hkr, hor, htr⟩ := hrel
    have HKR := Lib.hid hkr
    have HOR := Lib.hid hor
    have HTR := Lib.hid htr
    have LR := htr.size
    have HRR := Lib.hid (HR.out.tch htr (by simp; omega))
    have q3 := hkr.cell 3
    have f3 := hkr.frozen 3
    simp [pmMsg] at q3
    clear hkr hor htr
    by_cases hlt : j < n
    · have hc := HRR.out.byte j (by rw [HL.out]; exact hlt)
      obtain ⟨m, hm⟩ : ∃ m, l.getD j 0 = m := ⟨_, rfl⟩
      rw [hm] at hc
      have HMM := Lib.hid hm
      have hm8 := m.toNat_lt
      have hm16 : (m.toNat : Int) % 65536 = m.toNat := by omega
      have hj1 : (j : Int) < 256 := by omega
      clear hm hm8
      go_wp2_with (at_builtin; refine Held.on ?_)
      have hrow : Rd (wr.alloc (.cells #[.int .u16 m.toNat] 24)) (some ⟨wr.heap.size, 0, none⟩) (zv [m.toNat]) := by
        refine .inr ⟨_, _, rfl, fun k v hk => ?_⟩
        cases k with
        | zero => simp [zv] at hk; subst hk; simp
        | succ k => simp [zv] at hk
      refine held_append rfl (.tmp 17) (.tmp 20) 27 27 rfl (w.heap.size + 2) 24 _ 1 2 Tryd.underlying27 (.inl Tryd.underlying27) u16inf rfl (by omega) (xs := zv ((l.take j).map UInt8.toNat)) (ys := zv [m.toNat]) rfl rfl (HOR.out.keep (below_alloc _ _)) ⟨by simp [zv], by intro v h; simp [zv] at h; subst h; rfl, .inl ⟨_, _, rfl, hrow⟩⟩ (by omega) (by simp only [maxLen]; omega) (by simp; omega) ?_
      intro A2 c2 w9 hO9 hg9 hor9
      have hA2 : A2 = none ∨ ∃ a, A2 = some ⟨a, 0, none⟩ ∧ w.heap.size + 2 ≤ a := by
        rcases hor9 with ⟨rfl, _⟩ | rfl
        · exact hA
        · exact .inr ⟨_, rfl, by simp; omega⟩
      have t9 : Tch (A.map (·.block)).toList wr w9 := ((Tch.alloc wr _).more (by simp)).trans (Tch.grown hg9)
      have hk9 := HKR.out.tch t9 (by rcases hA with rfl | ⟨a, rfl, ha⟩ <;> simp <;> omega)
      have q9 := hk9.cell 3
      have f9 := hk9.frozen 3
      simp [pmMsg] at q9
      have TS := Tch.set w9 (w.heap.size + 1) 3 (.slice A2 (j + 1) c2)
      have HK9 := Lib.hid hk9
      have HO9 := Lib.hid hO9
      have HT9 := Lib.hid (HTR.out.then t9 (by rcases hA with rfl | ⟨a, rfl, ha⟩ <;> simp <;> omega))
      clear hO9 hg9 hor9 t9 hk9 hrow q3 f3
      go_wp2_with fail
      go_roundw
      case rel =>
        have hK := HK9.out.set_ 3 (.slice A2 (j + 1) c2)
        refine ⟨j + 1, by omega, by go_num, A2, c2, hA2, by simpa [pmMsg] using hK, ?_, HT9.out.trans TS⟩
        have h := HO9.out.grown TS.toGrown (by rcases hA2 with rfl | ⟨a, rfl, ha⟩ <;> simp <;> omega)
        have e : zv ((l.take j).map UInt8.toNat) ++ zv [m.toNat] = zv ((l.take (j + 1)).map UInt8.toNat) := by
          have hjl : j < l.length := by have := HL.out; omega
          have e0 : l.take (j + 1) = l.take j ++ [m] := by
            rw [List.take_succ_eq_append_getElem hjl, ← HMM.out, List.getD_eq_getElem?_getD, List.getElem?_eq_getElem hjl]; rfl
          rw [e0, List.map_append]
          unfold zv
          rw [List.map_append]
          rfl
        rw [e] at h
        exact h
      case measure => simp [intOf]; omega
    · obtain rfl : j = n := by omega
      have hM := HM0.out.tch HTR.out (by simp)
      have hbr : Below w.heap.size w wr := HB.out.trans ⟨HTR.out.os, HTR.out.tape, HTR.out.output, HTR.out.size, fun k hk => HTR.out.block k (by omega) (by simp; omega)⟩
      have HMM := Lib.hid hM
      have HBR := Lib.hid hbr
      clear hM hbr q3 f3
      go_wp2_with (with_reducible refine Held.load 34 ?_)
      refine held_load_row (cs := pmMsg A j c') HKR.out Tryd.underlying34 extInfo rfl ?_
      go_wp2_with (with_reducible refine Held.store 34 ?_)
      refine held_store_row (cells := pmMsg A j c') HMM.out extInfo rfl rfl rfl (by simp [pmMsg, Value.oneCell']) fun w3 hk3 hg3 _ => ?_
      go_wp2_with fail
      exact bodyPost_cell rfl rfl rfl hk3 Tryd.underlying34 extInfo ⟨_, _, rfl, HBR.out.grown hg3 HBR.out.size (fun k hk' => by simp at hk'; omega)⟩
end Go.Proofs.YtgnkfpfgolhokaaDoor
