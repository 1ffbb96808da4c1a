/- Walks: lists of signature schemes as the library has them, and as data. -/
import Derived.Test.YtmappdbodnlepaaDoorAlgM
import Derived.Test.YtmappdbodnlepaaDoorAlgU
import Derived.Test.YtmappdbodnlepaaDoorPairs3
import Derived.Test.YtmappdbodnlepaaDoorRow
import Derived.LoopTactic
import Derived.Outline
namespace Go.Proofs.YtmappdbodnlepaaDoor
open Go.RowKit Go.Cv
set_option maxRecDepth 100000
set_option linter.unusedVariables false
theorem sgAlgInfo : (Tryd.prog.info? 106).map (fun i => (i.zero, i.size, i.bytes)) = some (some (.agg #[.int .u16 0, .int .u16 0]), 2, 4) := by kernel_rfl
theorem pv_next (zs : List (Nat × Nat)) (j h s : Nat) (hv : zs[j]? = some (h, s)) : pv (zs.take j) ++ [Value.int .u16 (h : Nat), Value.int .u16 (s : Nat)] = pv (zs.take (j + 1)) := by
  obtain ⟨hl, he⟩ := List.getElem?_eq_some_iff.1 hv
  rw [List.take_succ_eq_append_getElem hl, he]
  simp [pv]
theorem pr_two {W : World} {e : TypeId} {u v : Value} : Rd (W.alloc (.cells #[u, v] e)) (some ⟨W.heap.size, 0, none⟩) [u, v] := rd_pair W e u v
set_option maxHeartbeats 1000000 in
theorem pairs_any (b o n c : Nat) (zs : List (Nat × Nat)) (hl : zs.length = n) (hn : (n : Int) ≤ 1000) (h0 : 0 < n) (w : World) (hr : Rd w (some ⟨b, o, none⟩) (pv zs)) :
    Calls Tryd.prog 53 #[.slice (some ⟨b, o, none⟩) n c] w fun e w' => ∃ a c', e = .returned (.slice (some ⟨a, 0, none⟩) n c') ∧ Rd w' (some ⟨a, 0, none⟩) (pv zs) ∧ w.heap.size ≤ a ∧ Below w.heap.size w w' := by
  have HR := Lib.hid hr
  have HL := Lib.hid hl
  have H0 := Lib.hid h0
  have HB : Hid (b < w.heap.size) := Lib.hid (by
    obtain ⟨p, hp⟩ : ∃ p, zs[0]? = some p := ⟨_, List.getElem?_eq_getElem (by rw [hl]; exact h0)⟩
    exact block_lt (pairCell hr 0 p.1 p.2 hp).1)
  clear hr hl h0
  go_enter Tryd.func53, Tryd.ntmps53
  go_wp2_with fail
  go_loopw [3, 8] (fun v i wr => ∃ j : Nat, j ≤ n ∧ i = .int .i64 j ∧ ∃ A' c', Hi w.heap.size A' ∧ v = .slice A' j c' ∧ Own wr w.heap.size 2 A' j c' (pv (zs.take j)) ∧ Below w.heap.size w wr) (fun _ i _ => n - (intOf i).toNat)
  case atStart => exact ⟨0, Nat.zero_le _, rfl, none, 0, .inl rfl, rfl, Own.nil _ _ _, Below.refl _ _⟩
  case round =>
    obtain ⟨j, hj, rfl, A', c', hA, rfl, hor, hbr⟩ := hrel
    have HOR := Lib.hid hor
    have HBR := Lib.hid hbr
    have LR := hbr.size
    clear hor hbr
    by_cases hlt : j < n
    · obtain ⟨⟨h, s⟩, hv⟩ : ∃ p, zs[j]? = some p := ⟨_, List.getElem?_eq_getElem (by rw [HL.out]; exact hlt)⟩
      have hc := pairCell (HR.out.keep HBR.out) j h s hv
      have c0 := hc.1
      have c1 := hc.2
      have HV := Lib.hid hv
      have j1 : (j : Int) + 1 ≤ 1000 := by omega
      clear hv hc
      go_wp2_with (at_builtin; refine Held.on ?_)
      have hrow := rd_pair (wr.alloc (.cells #[.int .u16 (h : Int), .int .u16 (s : Int)] 33)) 106 (.int .u16 (h : Int)) (.int .u16 (s : Int))
      rw [World.size_alloc] at hrow
      refine held_append rfl (.tmp 12) (.tmp 18) 103 103 rfl w.heap.size 106 _ 2 4 Tryd.underlying103 (.inl Tryd.underlying103) sgAlgInfo rfl (by omega) (xs := pv (zs.take j)) (ys := [.int .u16 (h : Int), .int .u16 (s : Int)]) rfl rfl ((HOR.out.keep (below_alloc _ _)).keep (below_alloc _ _)) ⟨rfl, by intro v h; simp at h; rcases h with rfl | rfl <;> rfl, .inl ⟨_, _, rfl, hrow⟩⟩ (by omega) (by simp only [maxLen]; omega) (by simp; omega) ?_
      intro A2 c3 w9 hO9 hg9 hor9
      have t9 : Tch (A'.map (·.block)).toList wr w9 := (((Tch.alloc wr _).trans (Tch.alloc _ _)).more (by simp)).trans (Tch.grown hg9)
      have hA2 : Hi w.heap.size A2 := hA.new hor9 (by simp; omega)
      have hb9 : Below w.heap.size w w9 := ((Tch.below HBR.out []).then t9 (fun k hk => .inr (hA.inn k hk))).toBelow (Nat.le_refl _)
      rw [pv_next zs j h s HV.out] at hO9
      have HO9 := Lib.hid hO9
      have HB9 := Lib.hid hb9
      clear hO9 hg9 hor9 t9 hb9 hrow c0 c1
      go_wp2_with fail
      go_roundw
      case rel => exact ⟨j + 1, by omega, by go_num, A2, c3, hA2, rfl, HO9.out, HB9.out⟩
      case measure => simp [intOf]; omega
    · obtain rfl : j = n := by omega
      have e : zs.take j = zs := List.take_of_length_le (by rw [HL.out]; exact Nat.le_refl _)
      have HE := Lib.hid e
      clear e
      go_wp2_with fail
      go_ret
      have h := HOR.out
      rw [HE.out] at h
      have hn0 := H0.out
      rcases hA with rfl | ⟨a, rfl, ha⟩
      · obtain ⟨_, h2, _, h3 | ⟨_, _, h4, _⟩⟩ := h
        · omega
        · simp at h4
      · exact ⟨a, _, rfl, h.rd, ha, HBR.out⟩
theorem pv_snoc (zs : List (Nat × Nat)) (j h s : Nat) (hv : zs[j]? = some (h, s)) : pv (zs.take j) ++ [Value.int .u16 h, Value.int .u16 s] = pv (zs.take (j + 1)) := by
  obtain ⟨hl, hv2⟩ := List.getElem?_eq_some_iff.1 hv
  rw [List.take_succ_eq_append_getElem hl, hv2]
  simp [pv]
theorem pairInfo : (Tryd.prog.info? 33).map (fun i => (i.zero, i.size, i.bytes)) = some (some (.agg #[.int .u16 0, .int .u16 0]), 2, 4) := by kernel_rfl
set_option maxHeartbeats 1000000 in
theorem pairsData_any (b o n c : Nat) (zs : List (Nat × Nat)) (hl : zs.length = n) (hn : (n : Int) ≤ 1000) (h0 : 0 < n) (w : World) (hr : Rd w (some ⟨b, o, none⟩) (pv zs)) :
    Calls Tryd.prog 49 #[.slice (some ⟨b, o, none⟩) n c] w fun e w' => ∃ a c', e = .returned (.slice (some ⟨a, 0, none⟩) n c') ∧ Rd w' (some ⟨a, 0, none⟩) (pv zs) ∧ w.heap.size ≤ a ∧ Below w.heap.size w w' := by
  have HR := Lib.hid hr
  have HL := Lib.hid hl
  have H0 := Lib.hid h0
  have HB : Hid (b < w.heap.size) := Lib.hid (by
    obtain ⟨p, hp⟩ : ∃ p, zs[0]? = some p := ⟨_, List.getElem?_eq_getElem (by rw [hl]; exact h0)⟩
    exact block_lt (pairCell hr 0 p.1 p.2 hp).1)
  clear hr hl h0
  go_enter Tryd.func49, Tryd.ntmps49
  go_wp2_with fail
  go_loopw [3, 8] (fun v i wr => ∃ j : Nat, j ≤ n ∧ i = .int .i64 j ∧ ∃ A' c', Hi w.heap.size A' ∧ v = .slice A' j c' ∧ Own wr w.heap.size 2 A' j c' (pv (zs.take j)) ∧ Below w.heap.size w wr) (fun _ i _ => n - (intOf i).toNat)
  case atStart => exact ⟨0, Nat.zero_le _, rfl, none, 0, .inl rfl, rfl, Own.nil _ _ _, Below.refl _ _⟩
  case round =>
    obtain ⟨j, hj, rfl, A', c', hA, rfl, hor, hbr⟩ := hrel
    have HOR := Lib.hid hor
    have HBR := Lib.hid hbr
    have LR := hbr.size
    clear hor hbr
    by_cases hlt : j < n
    · obtain ⟨⟨h, s⟩, hv⟩ : ∃ p, zs[j]? = some p := ⟨_, List.getElem?_eq_getElem (by rw [HL.out]; exact hlt)⟩
      have hc := pairCell (HR.out.keep HBR.out) j h s hv
      have c0 := hc.1
      have c1 := hc.2
      have HV := Lib.hid hv
      have j1 : (j : Int) + 1 ≤ 1000 := by omega
      clear hv hc
      go_wp2_with (at_builtin; refine Held.on ?_)
      have hrow := rd_pair (wr.alloc (.cells #[.int .u16 (h : Int), .int .u16 (s : Int)] 106)) 33 (.int .u16 (h : Int)) (.int .u16 (s : Int))
      rw [World.size_alloc] at hrow
      refine held_append rfl (.tmp 12) (.tmp 18) 42 42 rfl w.heap.size 33 _ 2 4 Tryd.underlying42 (.inl Tryd.underlying42) pairInfo rfl (by omega) (xs := pv (zs.take j)) (ys := [.int .u16 (h : Int), .int .u16 (s : Int)]) rfl rfl ((HOR.out.keep (below_alloc _ _)).keep (below_alloc _ _)) ⟨rfl, by intro v h; simp at h; rcases h with rfl | rfl <;> rfl, .inl ⟨_, _, rfl, hrow⟩⟩ (by omega) (by simp only [maxLen]; omega) (by simp; omega) ?_
      intro A2 c3 w9 hO9 hg9 hor9
      have t9 : Tch (A'.map (·.block)).toList wr w9 := (((Tch.alloc wr _).trans (Tch.alloc _ _)).more (by simp)).trans (Tch.grown hg9)
      have hA2 : Hi w.heap.size A2 := hA.new hor9 (by simp; omega)
      have hb9 : Below w.heap.size w w9 := ((Tch.below HBR.out []).then t9 (fun k hk => .inr (hA.inn k hk))).toBelow (Nat.le_refl _)
      rw [pv_snoc zs j h s HV.out] at hO9
      have HO9 := Lib.hid hO9
      have HB9 := Lib.hid hb9
      clear hO9 hg9 hor9 t9 hb9 hrow c0 c1
      go_wp2_with fail
      go_roundw
      case rel => exact ⟨j + 1, by omega, by go_num, A2, c3, hA2, rfl, HO9.out, HB9.out⟩
      case measure => simp [intOf]; omega
    · obtain rfl : j = n := by omega
      have e : zs.take j = zs := List.take_of_length_le (by rw [HL.out]; exact Nat.le_refl _)
      have HE := Lib.hid e
      clear e
      go_wp2_with fail
      go_ret
      have h := HOR.out
      rw [HE.out] at h
      have hn0 := H0.out
      rcases hA with rfl | ⟨a, rfl, ha⟩
      · obtain ⟨_, h2, _, h3 | ⟨_, _, h4, _⟩⟩ := h
        · omega
        · simp at h4
      · exact ⟨a, _, rfl, h.rd, ha, HBR.out⟩
end Go.Proofs.YtmappdbodnlepaaDoor
