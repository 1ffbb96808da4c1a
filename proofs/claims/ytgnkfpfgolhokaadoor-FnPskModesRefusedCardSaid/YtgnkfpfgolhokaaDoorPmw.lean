/- Walks: modes of pre-shared keys, written or refused. -/
import Derived.Test.YtgnkfpfgolhokaaDoorPmE
namespace Go.Proofs.YtgnkfpfgolhokaaDoor
open Go.RowKit Go.Cv
set_option maxRecDepth 100000
set_option linter.unusedVariables false
def extPm (A : Option Addr) (n c : Nat) : Array Value := #[.int .u16 45, .string (S []), .slice none 0 0, .slice A n c, .slice none 0 0, .bool false, .int .u32 0, .bool false, .slice none 0 0, .slice none 0 0, .slice none 0 0, .slice none 0 0, .slice none 0 0]
theorem flat1_len (zs : List Nat) : (flat 1 zs).length = zs.length := by rw [flat_length]; omega
theorem flat1_map (zs : List Nat) : flat 1 zs = zs.map UInt8.ofNat := by
  induction zs with
  | nil => rfl
  | cons y r ih =>
    have e : flat 1 (y :: r) = be 1 y ++ flat 1 r := by simp [flat]
    rw [e, ih]
    simp [be]
theorem flat1_next (zs : List Nat) (j : Nat) (hj : j < zs.length) : vs (flat 1 (zs.take j)) ++ [Value.int .u8 ((zs.getD j 0 : Nat) % 256 : Int)] = vs (flat 1 (zs.take (j + 1))) := by
  rw [← flat_take 1 zs j hj, vs_append]
  simp [be, vs]
theorem mk_inc {j n : Nat} (hj : j < n) (h : n ≤ 255) : wrap64 ((j : Int) + 1) = (j : Int) + 1 := by unfold wrap64; omega
theorem mk_meas {j n : Nat} (h : j < n) : n - (intOf (Value.int .i64 ((j : Int) + 1))).toNat < n - (intOf (Value.int .i64 (j : Int))).toNat := by simp [intOf]; omega
set_option maxHeartbeats 2000000 in
theorem makePm_any (b o n c : Nat) (zs : List Nat) (hl : zs.length = n) (hn : n ≤ 255) (cs : Array Value) (h3 : cs[3]? = some (.slice (some ⟨b, o, none⟩) n c)) (w : World) (hr : Rd w (some ⟨b, o, none⟩) (zv zs)) :
    Calls Tryd.prog 36 #[.agg cs] w fun e w' => ∃ g A' c', e = .returned (.pointer (some ⟨g, 0, none⟩)) ∧ Blk w' g 75 #[.slice A' n c'] ∧ Rd w' A' (vs (flat 1 zs)) ∧ (∀ a, A'.map (·.block) = some a → a < w'.heap.size) ∧ Hi (w.heap.size + 2) A' ∧ Below w.heap.size w w' := by
  have HR := Lib.hid hr
  have HL := Lib.hid hl
  have HN := Lib.hid hn
  have hbW : Below w.heap.size w ((w.alloc (.cells cs 34)).alloc (.cells #[.slice none 0 0] 75)) := below_two (below_alloc _ _) (below_alloc _ _)
  have hkb := Blk.new (w.alloc (.cells cs 34)) 75 #[.slice none 0 0]
  have hsz : ((w.alloc (.cells cs 34)).alloc (.cells #[.slice none 0 0] 75)).heap.size = w.heap.size + 2 := by rw [World.size_alloc, World.size_alloc]
  rw [World.size_alloc] at hkb
  clear hr hl hn
  go_enter Tryd.func36, Tryd.ntmps36
  go_wp2_with fail
  generalize (w.alloc (.cells cs 34)).alloc (.cells #[.slice none 0 0] 75) = W at *
  have HBW := Lib.hid hbW
  have HKB := Lib.hid hkb
  have HSZ := Lib.hid hsz
  clear hbW hkb hsz h3
  go_loopw [11] (fun i wr => ∃ j : Nat, j ≤ n ∧ i = .int .i64 j ∧ ∃ A' c', Hid (Hi (w.heap.size + 2) A') ∧ Hid (Lo A' wr) ∧ Hid (Blk wr (w.heap.size + 1) 75 #[.slice A' j c']) ∧ Hid (Own wr (w.heap.size + 2) 1 A' j c' (vs (flat 1 (zs.take j)))) ∧ Hid (Below w.heap.size w wr) ∧ Hid (w.heap.size + 2 ≤ wr.heap.size)) (fun i _ => n - (intOf i).toNat)
  case atStart => exact ⟨0, Nat.zero_le _, rfl, none, 0, Lib.hid (.inl rfl), Lib.hid (Lo.none _), HKB, Lib.hid (by simpa [flat, vs] using Own.nil _ _ _), HBW, Lib.hid (by rw [HSZ.out]; exact Nat.le_refl _)⟩
  case round =>
    obtain ⟨j, hj, rfl, A', c', HA, HLO, HKJ, HOR, HBR, HSJ⟩ := hrel
    by_cases hlt : j < n
    · have hc := numCell (HR.out.keep HBR.out) j (by rw [HL.out]; exact hlt)
      obtain ⟨z, hz⟩ : ∃ z, zs.getD j 0 = z := ⟨_, rfl⟩
      rw [hz] at hc
      have HZ := Lib.hid hz
      have k0 := (HKJ.out.cell 0).trans (rfl : _ = some (Value.slice A' j c'))
      have jw := mk_inc hlt HN.out
      clear hz
      go_wp2_with (at_builtin; refine Held.on ?_)
      refine held_append rfl (.tmp 19) (.tmp 22) 73 73 rfl (w.heap.size + 2) 120 _ 1 1 Tryd.underlying73 (.inl Tryd.underlying73) modeInfo rfl Nat.one_pos (xs := vs (flat 1 (zs.take j))) (ys := [.int .u8 ((z : Nat) % 256 : Int)]) rfl rfl (HOR.out.keep (below_alloc _ _)) ⟨rfl, by intro v h; simp at h; subst h; rfl, .inl ⟨_, _, rfl, by first | exact rd_single _ _ _ | (have := rd_single wr 120 (.int .u8 ((z : Nat) % 256 : Int)); simpa [IntKind.wrap_u8] using this)⟩⟩ (by have := HN.out; omega) (by have := HN.out; simp only [maxLen]; omega) (by rw [World.size_alloc]; have := HSJ.out; omega) ?_
      intro A2 c3 w9 hO9 hg9 hor9
      have t9 : Tch (A'.map (·.block)).toList wr w9 := ((Tch.alloc wr _).more (by simp)).trans (Tch.grown hg9)
      have hA2 : Hid (Hi (w.heap.size + 2) A2) := Lib.hid (HA.out.new hor9 (by rw [World.size_alloc]; have := HSJ.out; omega))
      have hk9 : Blk w9 (w.heap.size + 1) 75 #[.slice A' j c'] := HKJ.out.tch t9 (HA.out.notin (by omega))
      have hb9 : Hid (Below w.heap.size w w9) := Lib.hid (((Tch.below HBR.out []).then t9 (fun k hk => .inr (by have := HA.out.inn k hk; omega))).toBelow (Nat.le_refl _))
      rw [← HZ.out, flat1_next zs j (by rw [HL.out]; exact hlt)] at hO9
      have hlo9 : Hid (Lo A2 w9) := Lib.hid (hO9.lo (by omega))
      have HO9 := Lib.hid hO9
      have HK9 := Lib.hid hk9
      have HS9 : Hid (w.heap.size + 2 ≤ w9.heap.size) := Lib.hid (Nat.le_trans HSJ.out t9.size)
      have k9 := (hk9.cell 0).trans (rfl : _ = some (Value.slice A' j c'))
      have f9 := hk9.frozen 0
      clear hO9 hg9 hor9 t9 hk9 hc k0
      go_wp2_with fail
      go_roundw
      case rel =>
        have TS := Tch.set w9 (w.heap.size + 1) 0 (.slice A2 (j + 1) c3)
        exact ⟨j + 1, hlt, by rw [jw]; go_num, A2, c3, hA2, Lib.hid (hlo9.out.mono TS.size), Lib.hid (by simpa using HK9.out.set_ 0 (.slice A2 (j + 1) c3)), Lib.hid (HO9.out.tch TS (hA2.out.away (by simp))), Lib.hid (hb9.out.setCell (p := ⟨w.heap.size + 1, 0, none⟩) (Nat.le_succ _) _), Lib.hid (Nat.le_trans HS9.out TS.size)⟩
      case measure => rw [jw]; exact mk_meas hlt
    · obtain rfl : j = n := by omega
      have ht : zs.take j = zs := List.take_of_length_le (by rw [HL.out]; exact Nat.le_refl _)
      have HT := Lib.hid ht
      clear ht
      go_wp2_with fail
      go_ret
      refine ⟨_, _, _, rfl, HKJ.out, ?_, HLO.out, HA.out, HBR.out⟩
      have := HOR.out.rd
      rwa [HT.out] at this
theorem pmEnters {f : FuncId} {fn : Func} {c : Code} (hf : Tryd.prog.funcs[f]? = some fn) (hname : (fn.name == "runtime.NumGoroutine") = false) (hb : fn.body = some c) (args : Array Value) (w : World) :
    (callFunc f args).run Tryd.prog w = .ok (.enter f args) w := enters hf hname hb args w
set_option maxHeartbeats 1000000 in
theorem pmFill2 (P0 : Nat → Prop) (w0 : World) (x g a n c icb : Nat) (zs : List Nat) (hl : zs.length = n) (hn : n ≤ 255) (hz : ∀ z ∈ zs, z < 256) (hx : w0.cell? ⟨x, 0, none⟩ = some (.pointer (some ⟨g, 0, none⟩))) (hg : w0.cell? ⟨g, 0, none⟩ = some (.slice (some ⟨a, 0, none⟩) n c)) (hr : Rd w0 (some ⟨a, 0, none⟩) (vs (flat 1 zs))) (hPx : P0 x) (hPg : P0 g) (hPa : P0 a) :
    Fills P0 w0 69 #[.pointer (some ⟨x, 0, none⟩)] icb (flat 1 zs) := by
  intro w1 P q off pl l hsub hk hic hPi hl0 hs hbp
  rw [flat1_len] at hs
  have h1 := hk.cell hx hPx
  have h2 := hk.cell hg hPg
  have HR := Lib.hid (hr.kp hk hPa)
  have HPA := Lib.hid (hsub _ hPa)
  have HBP := Lib.hid hbp
  have HL := Lib.hid hl
  have HN := Lib.hid hn
  have HZ := Lib.hid hz
  have HS := Lib.hid hs
  clear hx hg hr hPx hPg hPa hsub hk hic hPi hl0 hs hbp hl hn hz
  show Calls Tryd.prog 69 #[.pointer (some ⟨q, 0, none⟩), .pointer (some ⟨x, 0, none⟩)] w1 _
  go_enter Tryd.func69, Tryd.ntmps69
  go_wp2_with fail
  go_loopw [10] (fun i wr => ∃ j : Nat, j ≤ n ∧ i = .int .i64 j ∧ Hid (BP P wr q (.pointer (some ⟨icb, 0, none⟩)) off pl (l ++ flat 1 (zs.take j))) ∧ Hid (Kp P w1 wr)) (fun i _ => n - (intOf i).toNat)
  case atStart => exact ⟨0, Nat.zero_le _, rfl, Lib.hid (by simpa [flat] using HBP.out), Lib.hid (Kp.refl _ _)⟩
  case round =>
    obtain ⟨j, hj, rfl, HBJ, HKJ⟩ := hrel
    by_cases hlt : j < n
    · have hjl : j < zs.length := by rw [HL.out]; exact hlt
      obtain ⟨z, hzz⟩ : ∃ z, zs.getD j 0 = z := ⟨_, rfl⟩
      have hz6 : z < 256 := by rw [← hzz, List.getD_eq_getElem?_getD, List.getElem?_eq_getElem hjl]; exact HZ.out _ (List.getElem_mem hjl)
      have hc : wr.cell? ⟨a, j, none⟩ = some (.int .u8 (z : Int)) := by
        have h := (HR.out.kp HKJ.out HPA.out).byte j (by rw [flat1_len]; exact hjl)
        have e : ((flat 1 zs).getD j 0).toNat = z := by
          have h1 : (flat 1 zs)[j]? = some (UInt8.ofNat z) := by
            rw [flat1_map, List.getElem?_map, List.getElem?_eq_getElem hjl]
            rw [List.getD_eq_getElem?_getD, List.getElem?_eq_getElem hjl] at hzz
            simp at hzz
            rw [hzz]
            rfl
          rw [List.getD_eq_getElem?_getD, h1]
          simp
          omega
        rw [e] at h
        simpa using h
      have HZZ := Lib.hid hzz
      have jw := mk_inc hlt HN.out
      have HAD := Lib.hid (addP8_any P q (.pointer (some ⟨icb, 0, none⟩)) off pl (l ++ flat 1 (zs.take j)) z hz6 (by rw [List.length_append, flat1_len, List.length_take]; have := HS.out; omega) wr HBJ.out)
      clear hzz hz6
      go_wp2_with fail
      refine HAD.out.mono ?_
      rintro e w3 ⟨rfl, hb3, hk3⟩
      rw [List.append_assoc, ← HZZ.out, flat_take 1 zs j hjl] at hb3
      have HB3 := Lib.hid hb3
      have HK3 := Lib.hid (HKJ.out.trans hk3)
      clear hb3 hk3 hc HAD
      go_wp2_with fail
      go_roundw
      case rel => exact ⟨j + 1, hlt, by rw [jw]; go_num, HB3, HK3⟩
      case measure => rw [jw]; exact mk_meas hlt
    · obtain rfl : j = n := by omega
      have e : zs.take j = zs := List.take_of_length_le (by rw [HL.out]; exact Nat.le_refl _)
      have HE := Lib.hid e
      clear e
      go_wp2_with fail
      first | go_end0 | refine bodyPost_ret (results_none rfl _ _ _) rfl ?_
      have := HBJ.out
      rw [HE.out] at this
      exact ⟨rfl, this, HKJ.out⟩
end Go.Proofs.YtgnkfpfgolhokaaDoor
