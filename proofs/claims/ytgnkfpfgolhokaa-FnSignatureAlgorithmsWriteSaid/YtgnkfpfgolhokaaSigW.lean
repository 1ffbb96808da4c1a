/- Walks: a list of signature schemes, written as an extension. -/
import Derived.Test.YtgnkfpfgolhokaaAlgM
import Derived.Test.YtgnkfpfgolhokaaBp5
import Derived.Test.YtgnkfpfgolhokaaRow
namespace Go.Proofs.Ytgnkfpfgolhokaa
open Go.RowKit Go.Cv
set_option maxRecDepth 100000
set_option linter.unusedVariables false
theorem sgExtInfo : (Try.prog.info? 34).map (·.size) = some 13 := by kernel_rfl
theorem sgAlgInfo : (Try.prog.info? 65).map (fun i => (i.zero, i.size, i.bytes)) = some (some (.agg #[.int .u16 0, .int .u16 0]), 2, 4) := by kernel_rfl
def extSg (A : Option Addr) (n c : Nat) : Array Value := #[.int .u16 13, .string (S []), .slice none 0 0, .slice none 0 0, .slice A n c, .bool false, .int .u32 0, .bool false, .slice none 0 0, .slice none 0 0, .slice none 0 0, .slice none 0 0, .slice none 0 0]
theorem sgEnters {f : FuncId} {fn : Func} {c : Code} (hf : Try.prog.funcs[f]? = some fn) (hname : (fn.name == "runtime.NumGoroutine") = false) (hb : fn.body = some c) (args : Array Value) (w : World) :
    (callFunc f args).run Try.prog w = .ok (.enter f args) w := by
  have h1 : fn.name ≠ "runtime.NumGoroutine" := by simpa using hname
  simp [callFunc, hf, h1, hb]
theorem sgStart (w : World) (P : Nat → Prop) (hP : ∀ k, P k → k < w.heap.size) : BP P (w.alloc (.cells #[.nilIface, .slice none 0 0, .bool false, .pointer none, .int .i64 0, .int .i64 0, .bool false, .pointer none] 69)) w.heap.size (.pointer none) 0 0 [] :=
  ⟨none, 0, Blk.new _ _ _, Own.nil _ _ _, .inl rfl, fun h => Nat.lt_irrefl _ (hP _ h), fun k hk => by rw [World.size_alloc]; exact Nat.lt_succ_of_lt (hP k hk)⟩
theorem pv_next (zs : List (Nat × Nat)) (j h s : Nat) (hv : zs[j]? = some (h, s)) : pv (zs.take j) ++ [Value.int .u16 (h : Nat), Value.int .u16 (s : Nat)] = pv (zs.take (j + 1)) := by
  obtain ⟨hl, he⟩ := List.getElem?_eq_some_iff.1 hv
  rw [List.take_succ_eq_append_getElem hl, he]
  simp [pv]
theorem codes_next (zs : List (Nat × Nat)) (j h s : Nat) (hv : zs[j]? = some (h, s)) : flat 2 (codes (zs.take (j + 1))) = flat 2 (codes (zs.take j)) ++ be 2 (code h s) := by
  obtain ⟨hl, he⟩ := List.getElem?_eq_some_iff.1 hv
  rw [List.take_succ_eq_append_getElem hl, he]
  simp [codes, flat]
theorem codes_len (zs : List (Nat × Nat)) : (flat 2 (codes zs)).length = zs.length * 2 := by rw [flat_length]; simp [codes]
theorem pr_two {W : World} {e : TypeId} {u v : Value} : Rd (W.alloc (.cells #[u, v] e)) (some ⟨W.heap.size, 0, none⟩) [u, v] := rd_pair W e u v
set_option maxHeartbeats 1000000 in
theorem pairs_any (b o n c : Nat) (zs : List (Nat × Nat)) (hl : zs.length = n) (hn : (n : Int) ≤ 1000) (h0 : 0 < n) (w : World) (hr : Rd w (some ⟨b, o, none⟩) (pv zs)) :
    Calls Try.prog 17 #[.slice (some ⟨b, o, none⟩) n c] w fun e w' => ∃ a c', e = .returned (.slice (some ⟨a, 0, none⟩) n c') ∧ Rd w' (some ⟨a, 0, none⟩) (pv zs) ∧ w.heap.size ≤ a ∧ Below w.heap.size w w' := by
  have HR := Lib.hid hr
  have HL := Lib.hid hl
  have H0 := Lib.hid h0
  have HB : Hid (b < w.heap.size) := Lib.hid (by
    obtain ⟨p, hp⟩ : ∃ p, zs[0]? = some p := ⟨_, List.getElem?_eq_getElem (by rw [hl]; exact h0)⟩
    exact block_lt (pairCell hr 0 p.1 p.2 hp).1)
  clear hr hl h0
  go_enter Try.func17, Try.ntmps17
  go_wp2_with fail
  go_loopw [3, 8] (fun v i wr => ∃ j : Nat, j ≤ n ∧ i = .int .i64 j ∧ ∃ A' c', Hi w.heap.size A' ∧ v = .slice A' j c' ∧ Own wr w.heap.size 2 A' j c' (pv (zs.take j)) ∧ Below w.heap.size w wr) (fun _ i _ => n - (intOf i).toNat)
  case atStart => exact ⟨0, Nat.zero_le _, rfl, none, 0, .inl rfl, rfl, Own.nil _ _ _, Below.refl _ _⟩
  case round =>
    obtain ⟨j, hj, rfl, A', c', hA, rfl, hor, hbr⟩ := hrel
    have HOR := Lib.hid hor
    have HBR := Lib.hid hbr
    have LR := hbr.size
    clear hor hbr
    by_cases hlt : j < n
    · obtain ⟨⟨h, s⟩, hv⟩ : ∃ p, zs[j]? = some p := ⟨_, List.getElem?_eq_getElem (by rw [HL.out]; exact hlt)⟩
      have hc := pairCell (HR.out.keep HBR.out) j h s hv
      have c0 := hc.1
      have c1 := hc.2
      have HV := Lib.hid hv
      have j1 : (j : Int) + 1 ≤ 1000 := by omega
      clear hv hc
      go_wp2_with (at_builtin; refine Held.on ?_)
      have hrow := rd_pair (wr.alloc (.cells #[.int .u16 (h : Int), .int .u16 (s : Int)] 39)) 65 (.int .u16 (h : Int)) (.int .u16 (s : Int))
      rw [World.size_alloc] at hrow
      refine held_append rfl (.tmp 12) (.tmp 18) 54 54 rfl w.heap.size 65 _ 2 4 Try.underlying54 (.inl Try.underlying54) sgAlgInfo rfl (by omega) (xs := pv (zs.take j)) (ys := [.int .u16 (h : Int), .int .u16 (s : Int)]) rfl rfl ((HOR.out.keep (below_alloc _ _)).keep (below_alloc _ _)) ⟨rfl, by intro v h; simp at h; rcases h with rfl | rfl <;> rfl, .inl ⟨_, _, rfl, hrow⟩⟩ (by omega) (by simp only [maxLen]; omega) (by simp; omega) ?_
      intro A2 c3 w9 hO9 hg9 hor9
      have t9 : Tch (A'.map (·.block)).toList wr w9 := (((Tch.alloc wr _).trans (Tch.alloc _ _)).more (by simp)).trans (Tch.grown hg9)
      have hA2 : Hi w.heap.size A2 := hA.new hor9 (by simp; omega)
      have hb9 : Below w.heap.size w w9 := ((Tch.below HBR.out []).then t9 (fun k hk => .inr (hA.inn k hk))).toBelow (Nat.le_refl _)
      rw [pv_next zs j h s HV.out] at hO9
      have HO9 := Lib.hid hO9
      have HB9 := Lib.hid hb9
      clear hO9 hg9 hor9 t9 hb9 hrow c0 c1
      go_wp2_with fail
      go_roundw
      case rel => exact ⟨j + 1, by omega, by go_num, A2, c3, hA2, rfl, HO9.out, HB9.out⟩
      case measure => simp [intOf]; omega
    · obtain rfl : j = n := by omega
      have e : zs.take j = zs := List.take_of_length_le (by rw [HL.out]; exact Nat.le_refl _)
      have HE := Lib.hid e
      clear e
      go_wp2_with fail
      go_ret
      have h := HOR.out
      rw [HE.out] at h
      have hn0 := H0.out
      rcases hA with rfl | ⟨a, rfl, ha⟩
      · obtain ⟨_, h2, _, h3 | ⟨_, _, h4, _⟩⟩ := h
        · omega
        · simp at h4
      · exact ⟨a, _, rfl, h.rd, ha, HBR.out⟩
theorem makeSg_any (b o n c : Nat) (zs : List (Nat × Nat)) (hl : zs.length = n) (hn : (n : Int) ≤ 1000) (h0 : 0 < n) (cs : Array Value) (h4 : cs[4]? = some (.slice (some ⟨b, o, none⟩) n c)) (w : World) (hr : Rd w (some ⟨b, o, none⟩) (pv zs)) :
    Calls Try.prog 11 #[.agg cs] w fun e w' => ∃ g a c', e = .returned (.pointer (some ⟨g, 0, none⟩)) ∧ Blk w' g 57 #[.slice (some ⟨a, 0, none⟩) n c'] ∧ Rd w' (some ⟨a, 0, none⟩) (pv zs) ∧ Below w.heap.size w w' := by
  have HP := Lib.hid (pairs_any b o n c zs hl hn h0 (w.alloc (.cells cs 34)) (hr.keep (below_alloc _ _)))
  clear hl hn h0 hr
  go_enter Try.func11, Try.ntmps11
  go_wp2_with fail
  refine HP.out.mono ?_
  rintro e w1 ⟨a, c', rfl, h1, h2, h3⟩
  have H1 := Lib.hid h1
  have H3 := Lib.hid (below_two (below_alloc w _) h3)
  clear h1 h2 h3
  go_wp2_with fail
  go_ret
  exact ⟨_, a, c', rfl, Blk.new _ _ _, H1.out.keep (below_alloc _ _), below_two H3.out (below_alloc _ _)⟩
theorem sgType_any (v : Array Value) (w : World) : Calls Try.prog 19 #[.agg v] w fun e w' => e = .returned (.int .u16 13) ∧ Below w.heap.size w w' := by
  go_enter Try.func19, Try.ntmps19
  go_wp2_with fail
  go_ret
  exact ⟨rfl, by first | exact below_alloc _ _ | exact Below.refl _ _⟩
set_option maxHeartbeats 1000000 in
theorem sgFill2 (P0 : Nat → Prop) (w0 : World) (x a n c icb : Nat) (zs : List (Nat × Nat)) (hl : zs.length = n) (hn : n ≤ 1000) (h0 : 0 < n) (hz : Sch zs) (hx : w0.cell? ⟨x, 0, none⟩ = some (.slice (some ⟨a, 0, none⟩) n c)) (hr : Rd w0 (some ⟨a, 0, none⟩) (pv zs)) (hPx : P0 x) (hPa : P0 a) :
    Fills P0 w0 24 #[.pointer (some ⟨x, 0, none⟩)] icb (flat 2 (codes zs)) := by
  intro w1 P q off pl l hsub hk hic hPi hl0 hs hbp
  rw [codes_len] at hs
  have h1 := hk.cell hx hPx
  have HR := Lib.hid (hr.kp hk hPa)
  have HPA := Lib.hid (hsub _ hPa)
  have HBP := Lib.hid hbp
  have HL := Lib.hid hl
  have HN := Lib.hid hn
  have HZ := Lib.hid hz
  have HS := Lib.hid hs
  have HL0 := Lib.hid hl0
  clear hx hr hPx hPa hsub hk hic hPi hl0 hs hbp hl hn hz
  show Calls Try.prog 24 #[.pointer (some ⟨q, 0, none⟩), .pointer (some ⟨x, 0, none⟩)] w1 _
  go_enter Try.func24, Try.ntmps24
  go_wp2_with fail
  go_loopw [7] (fun i wr => ∃ j : Nat, j ≤ n ∧ i = .int .i64 j ∧ Hid (BP P wr q (.pointer (some ⟨icb, 0, none⟩)) off pl (l ++ flat 2 (codes (zs.take j)))) ∧ Hid (Kp P w1 wr)) (fun i _ => n - (intOf i).toNat)
  case atStart => exact ⟨0, Nat.zero_le _, rfl, Lib.hid (by simpa [codes, flat] using HBP.out), Lib.hid (Kp.refl _ _)⟩
  case round =>
    obtain ⟨j, hj, rfl, HBJ, HKJ⟩ := hrel
    by_cases hlt : j < n
    · obtain ⟨⟨h, s⟩, hv⟩ : ∃ p, zs[j]? = some p := ⟨_, List.getElem?_eq_getElem (by rw [HL.out]; exact hlt)⟩
      obtain ⟨c0, c1⟩ := pairCell (HR.out.kp HKJ.out HPA.out) j h s hv
      simp only [Nat.zero_add] at c0 c1
      have HOK : Hid (OkP h s) := Lib.hid (HZ.out _ (List.mem_of_getElem? hv))
      have HV := Lib.hid hv
      have jw := inc_wrap2 hlt (by have := HN.out; omega)
      have HJ := Lib.hid hlt
      clear hv
      go_wp2_with fail
      refine (algM_any wr.heap.size h s HOK.out (wr.alloc (.cells #[.int .u16 (h : Int), .int .u16 (s : Int)] 65)) (Blk.new _ _ _)).mono ?_
      rintro e w2 ⟨rfl, ho2, hb2⟩
      have hrd2 := ho2.rd
      rw [World.size_alloc] at hrd2
      have HAD := Lib.hid (addPBytes_any P q (.pointer (some ⟨icb, 0, none⟩)) off pl (l ++ flat 2 (codes (zs.take j))) (be 2 (code h s)) (some ⟨wr.heap.size + 1, 0, none⟩) 2 2 (be_length _ _) (by omega) (by rw [List.length_append, codes_len, List.length_take, HL.out]; have := HS.out; have := HL.out; omega) w2 ((HBJ.out.keep (below_alloc _ _)).keep hb2) hrd2)
      have HK2 : Hid (Kp P w1 w2) := Lib.hid (HKJ.out.trans ((Kp.alloc P wr _).trans (Kp.below hb2)))
      clear ho2 hrd2 hb2 c0 c1
      go_wp2_with fail
      refine HAD.out.mono ?_
      rintro e w3 ⟨rfl, hb3, hk3⟩
      rw [List.append_assoc, ← codes_next zs j h s HV.out] at hb3
      have HB3 := Lib.hid hb3
      have HK3 := Lib.hid (HK2.out.trans hk3)
      clear hb3 hk3
      go_wp2_with fail
      go_roundw
      case rel => exact ⟨j + 1, hlt, by rw [jw]; go_num, HB3, HK3⟩
      case measure => rw [jw]; exact meas2 hlt
    · obtain rfl : j = n := by omega
      have e : zs.take j = zs := List.take_of_length_le (by rw [HL.out]; exact Nat.le_refl _)
      have HE := Lib.hid e
      clear e
      go_wp2_with fail
      first | go_end0 | refine bodyPost_ret (results_none rfl _ _ _) rfl ?_
      have := HBJ.out
      rw [HE.out] at this
      exact ⟨rfl, this, HKJ.out⟩
theorem sgFill1 (P0 : Nat → Prop) (w0 : World) (x a n c icb : Nat) (zs : List (Nat × Nat)) (hl : zs.length = n) (hn : n ≤ 1000) (h0 : 0 < n) (hz : Sch zs) (hx : w0.cell? ⟨x, 0, none⟩ = some (.slice (some ⟨a, 0, none⟩) n c)) (hr : Rd w0 (some ⟨a, 0, none⟩) (pv zs)) (hPx : P0 x) (hPa : P0 a) :
    Fills P0 w0 23 #[.pointer (some ⟨x, 0, none⟩)] icb (be 2 (flat 2 (codes zs)).length ++ flat 2 (codes zs)) := by
  intro w1 P q off pl k hsub hk hic hPi hl0 hs hbp
  rw [List.length_append, be_length] at hs
  have hmf : ∀ (fn : Fn) (first cap : Array Value) (w : World), (Instr.makeFunc fn first cap).run Try.prog w = .ok (.func fn first cap) w := fun _ _ _ _ => rfl
  have HA := Lib.hid (alp16In_any P w1 24 #[.pointer (some ⟨x, 0, none⟩)] q icb off pl k (flat 2 (codes zs)) (sgEnters Try.func24 (by kernel_rfl) rfl) (by rw [codes_len, hl]; omega) (by omega) hbp hic hPi
    (sgFill2 P w1 x a n c icb zs hl hn h0 hz (hk.cell hx hPx) (hr.kp hk hPa) (hsub _ hPx) (hsub _ hPa)))
  clear hx hr hPx hPa hsub hk hic hPi hl0 hs hbp hl hn hz h0
  show Calls Try.prog 23 #[.pointer (some ⟨q, 0, none⟩), .pointer (some ⟨x, 0, none⟩)] w1 _
  go_enter Try.func23, Try.ntmps23
  go_wp2_with fail
  refine HA.out.mono ?_
  rintro e w2 ⟨rfl, h3, h4⟩
  go_wp2_with fail
  go_end0
  exact ⟨rfl, h3, h4⟩
end Go.Proofs.Ytgnkfpfgolhokaa
