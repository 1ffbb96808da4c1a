/- Walks: lists of signature schemes: schemes, PairWrite, marks. -/
import Derived.Test.YtgnkfpfgolhokaaPairs2
import Derived.Test.YtgnkfpfgolhokaaNums
namespace Go.Proofs.Ytgnkfpfgolhokaa
open Go.RowKit Go.Cv
set_option maxRecDepth 100000
set_option linter.unusedVariables false
def pv (zs : List (Nat × Nat)) : List Value := zs.flatMap fun p => [Value.int .u16 (p.1 : Nat), Value.int .u16 (p.2 : Nat)]
theorem pv_length (zs : List (Nat × Nat)) : (pv zs).length = zs.length * 2 := by
  induction zs with
  | nil => rfl
  | cons z r ih =>
    have : pv (z :: r) = [Value.int .u16 (z.1 : Nat), Value.int .u16 (z.2 : Nat)] ++ pv r := rfl
    rw [this, List.length_append, ih, List.length_cons]
    simp; omega
theorem pv_at (zs : List (Nat × Nat)) (j h s : Nat) (hj : zs[j]? = some (h, s)) : (pv zs)[j * 2]? = some (.int .u16 h) ∧ (pv zs)[j * 2 + 1]? = some (.int .u16 s) := by
  induction zs generalizing j with
  | nil => simp at hj
  | cons z r ih =>
    have e : pv (z :: r) = Value.int .u16 (z.1 : Nat) :: Value.int .u16 (z.2 : Nat) :: pv r := rfl
    cases j with
    | zero => simp at hj; subst hj; exact ⟨rfl, rfl⟩
    | succ i =>
      have := ih i (by simpa using hj)
      rw [e, Nat.succ_mul]
      exact this
theorem pairCell {w : World} {b o : Nat} {zs : List (Nat × Nat)} (hr : Rd w (some ⟨b, o, none⟩) (pv zs)) (j h s : Nat) (hj : zs[j]? = some (h, s)) : w.cell? ⟨b, o + j * 2, none⟩ = some (.int .u16 h) ∧ w.cell? ⟨b, o + j * 2 + 1, none⟩ = some (.int .u16 s) := by
  obtain ⟨h1, h2⟩ := pv_at zs j h s hj
  rcases hr with hr | ⟨b', o', hA, hr⟩
  · rw [hr] at h1; simp at h1
  · injection hA with hA
    injection hA with hb ho
    subst hb ho
    exact ⟨hr _ _ h1, by rw [Nat.add_assoc]; exact hr _ _ h2⟩
def Sch (zs : List (Nat × Nat)) : Prop := ∀ p ∈ zs, OkP p.1 p.2
theorem sch_snoc {zs : List (Nat × Nat)} {j h s : Nat} (hs : Sch (zs.take j)) (hj : zs[j]? = some (h, s)) (ok : OkP h s) : Sch (zs.take (j + 1)) := by
  obtain ⟨hl, hv⟩ := List.getElem?_eq_some_iff.1 hj
  rw [List.take_succ_eq_append_getElem hl, hv]
  intro u hu
  rcases List.mem_append.1 hu with hu | hu
  · exact hs u hu
  · simp at hu; subst hu; exact ok
theorem inc_wrap2 {j n : Nat} (hj : j < n) (h : (n : Int) ≤ 2147483647) : wrap64 ((j : Int) + 1) = (j : Int) + 1 := by unfold wrap64; omega
theorem meas2 {j n : Nat} (h : j < n) : n - (intOf (Value.int .i64 ((j : Int) + 1))).toNat < n - (intOf (Value.int .i64 (j : Int))).toNat := by simp [intOf]; omega
def SchemesPost (zs : List (Nat × Nat)) (w : World) (e : Ending) (w' : World) : Prop := ∃ d : Bool, e = .returned (.bool d) ∧ (d = true → Sch zs ∧ 0 < zs.length ∧ zs.length < 1000) ∧ Below w.heap.size w w'
theorem schemes0 (A : Option Addr) (c : Nat) (w : World) :
    Calls Try.prog 4 #[.slice A 0 c] w fun e w' => e = .returned (.bool false) ∧ w = w' := by
  go_enter Try.func4, Try.ntmps4
  go_wp2_with fail
  refine wp_loop_rounds 1 ?_
  rw [rounds_succ]
  go_wp2_with fail
  go_ret
  exact ⟨rfl, rfl⟩
set_option maxHeartbeats 1000000 in
theorem schemes_any (b o n c : Nat) (zs : List (Nat × Nat)) (hl : zs.length = n) (h0 : 0 < n) (hn : Hid ((n : Int) ≤ 2147483647)) (w : World) (hr : Rd w (some ⟨b, o, none⟩) (pv zs)) :
    Calls Try.prog 4 #[.slice (some ⟨b, o, none⟩) n c] w (SchemesPost zs w) := by
  have HR := Lib.hid hr
  have HL := Lib.hid hl
  have HB : Hid (b < w.heap.size) := Lib.hid (by
    obtain ⟨p, hp⟩ : ∃ p, zs[0]? = some p := ⟨_, List.getElem?_eq_getElem (by rw [hl]; exact h0)⟩
    exact block_lt (pairCell hr 0 p.1 p.2 hp).1)
  have H0 := Lib.hid h0
  clear hr hl h0
  go_enter Try.func4, Try.ntmps4
  go_wp2_with fail
  go_loopw [7] (fun i wr => ∃ j : Nat, j ≤ n ∧ i = .int .i64 j ∧ Hid (Sch (zs.take j)) ∧ Below w.heap.size w wr) (fun i _ => n - (intOf i).toNat)
  case atStart => exact ⟨0, Nat.zero_le _, rfl, Lib.hid (by intro v h; simp at h), Below.refl _ _⟩
  case round =>
    obtain ⟨j, hj, rfl, hf, hb'⟩ := hrel
    have HBR := Lib.hid hb'
    clear hb'
    by_cases hlt : j < n
    · obtain ⟨⟨h, s⟩, hv⟩ : ∃ p, zs[j]? = some p := ⟨_, List.getElem?_eq_getElem (by rw [HL.out]; exact hlt)⟩
      have hc := pairCell (HR.out.keep HBR.out) j h s hv
      have c0 := hc.1
      have c1 := hc.2
      have jw := inc_wrap2 hlt hn.out
      have HV := Lib.hid hv
      clear hv hc
      go_wp2_with fail
      have hba := below_alloc wr (.cells #[.int .u16 (h : Int), .int .u16 (s : Int)] 39)
      have HBA := Lib.hid (below_two HBR.out hba)
      clear hba
      refine (scheme_any h s _).mono ?_
      rintro e w1 ⟨d, rfl, hd, hb1⟩
      have HB1 := Lib.hid (below_two HBA.out hb1)
      clear hb1
      cases d with
      | false =>
        clear hd
        go_wp2_with fail
        go_ret
        exact ⟨false, rfl, by simp, HB1.out⟩
      | true =>
        have hok := Lib.hid (hd rfl)
        clear hd
        go_wp2_with fail
        go_roundw
        case rel => exact ⟨j + 1, hlt, by rw [jw]; go_num, Lib.hid (sch_snoc hf.out HV.out hok.out), HB1.out⟩
        case measure => rw [jw]; exact meas2 hlt
    · obtain rfl : j = n := Nat.le_antisymm hj (Nat.le_of_not_lt hlt)
      have e : zs.take j = zs := List.take_of_length_le (by rw [HL.out]; exact Nat.le_refl _)
      have HT := Lib.hid e
      clear e
      have j0 := H0.out
      by_cases hk : (j : Int) < 1000
      · have t1 : decide ((j : Int) < 1000) = true := by simpa using hk
        have HK := Lib.hid hk
        clear hk
        go_wp2_with fail
        go_ret
        refine ⟨true, by simp, fun _ => ⟨?_, by rw [HL.out]; exact j0, by rw [HL.out]; have := HK.out; omega⟩, HBR.out⟩
        have := hf.out
        rwa [HT.out] at this
      · have t1 : decide ((j : Int) < 1000) = false := by simpa using hk
        clear hk
        go_wp2_with fail
        go_ret
        exact ⟨false, by simp, by simp, HBR.out⟩
theorem OkP.split {h s : Nat} (ok : OkP h s) : ((s = 1 ∨ s = 3 ∨ s = 7) ∧ 2 ≤ h ∧ h ≤ 8) ∨ ((s = 2052 ∨ s = 2053 ∨ s = 2054 ∨ s = 2057 ∨ s = 2058 ∨ s = 2059) ∧ 4 ≤ h ∧ h ≤ 6) := by
  unfold OkP pairsOK at ok
  simp at ok
  omega
theorem pairWrite_ok (h s : Nat) (ok : OkP h s) (w : World) :
    Calls Try.prog 14 #[.agg #[.int .u16 h, .int .u16 s]] w fun e w' => e = .returned (.string (S (be 2 (code h s)))) ∧ Below w.heap.size w w' := by
  rcases ok.split with ⟨hs, h2, h8⟩ | ⟨hs, _⟩
  · have hs8 : s ≤ 7 := by omega
    have HP := Lib.hid (fun w => pss_no s (by omega) w)
    obtain ⟨l, hl⟩ : ∃ l, be 2 (code h s) = l := ⟨_, rfl⟩
    have hl2 : l = [UInt8.ofNat h, UInt8.ofNat s] := by
      rw [← hl]
      have e : code h s = h * 256 + s := by unfold code; rw [if_neg (by omega)]
      rw [e]
      simp [be]
      have e1 : (h * 256 + s) / 256 = h := by omega
      rw [e1]
    have hv : vs l = [.int .u8 h, .int .u8 s] := by
      rw [hl2]
      have e1 : (UInt8.ofNat h).toNat = h := by simp; omega
      have e2 : (UInt8.ofNat s).toNat = s := by simp; omega
      simp only [vs, List.map_cons, List.map_nil, e1, e2]
    have hlen : l.length = 2 := by rw [hl2]; rfl
    rw [hl]
    have m1 : (h : Int) % 256 = h := by omega
    have m2 : (s : Int) % 256 = s := by omega
    have HV := Lib.hid hv
    have HLN := Lib.hid hlen
    clear hl hl2 hv hlen hs h2 h8 hs8 ok
    go_enter Try.func14, Try.ntmps14
    go_wp2_with fail
    refine (HP.out _).mono ?_
    rintro e w1 ⟨rfl, rfl⟩
    go_wp2_with fail
    refine upon_conv_bs 42 9 5 Try.underlying42 Try.underlying5 Try.underlying9 l _ _ _ HLN.out (by rw [HV.out]; have hh := rd_pair (w.alloc (.cells #[.int .u16 (h : Int), .int .u16 (s : Int)] 39)) 5 (.int .u8 (h : Int)) (.int .u8 (s : Int)); rw [World.size_alloc] at hh; exact hh) ?_
    go_wp2_with fail
    go_ret
    exact ⟨rfl, below_two (below_alloc _ _) (below_alloc _ _)⟩
  · have e : code h s = s := by unfold code; rw [if_pos (by omega)]
    rw [e]
    have HP := Lib.hid (fun w => pss_yes s hs w)
    have HN := Lib.hid (fun w => recNum2 s hs w)
    have m0 : (0 : Int) ≤ s := by omega
    have m1 : (s : Int) ≤ 60000 := by omega
    clear hs e ok
    go_enter Try.func14, Try.ntmps14
    go_wp2_with fail
    refine (HP.out _).mono ?_
    rintro e w1 ⟨rfl, rfl⟩
    go_wp2_with fail
    refine (HN.out _).mono ?_
    rintro e w1 ⟨rfl, hb1⟩
    go_wp2_with fail
    go_ret
    exact ⟨rfl, below_two (below_alloc _ _) hb1⟩
def codes (zs : List (Nat × Nat)) : List Nat := zs.map fun p => code p.1 p.2
set_option maxHeartbeats 1000000 in
theorem marks_any (b o n c : Nat) (zs : List (Nat × Nat)) (hl : zs.length = n) (hn : (n : Int) ≤ 1000) (hz : Sch zs) (w : World) (hr : Rd w (some ⟨b, o, none⟩) (pv zs)) :
    Calls Try.prog 8 #[.slice (some ⟨b, o, none⟩) n c] w fun e w' => e = .returned (.string (S (flat 2 (codes zs)))) ∧ Below w.heap.size w w' := by
  have HR := Lib.hid hr
  have HL := Lib.hid hl
  have HZ := Lib.hid hz
  have HA : Hid (∀ j h s w1, zs[j]? = some (h, s) → (Op.stringOp .add (S (flat 2 ((codes zs).take j))) (S (be 2 (code h s)))).run Try.prog w1 = .ok (.string (S (flat 2 ((codes zs).take (j + 1))))) w1) := fun j h s w1 hv => by
    have hj := (List.getElem?_eq_some_iff.1 hv).1
    have hjc : j < (codes zs).length := by unfold codes; rw [List.length_map]; exact hj
    have e : (codes zs).getD j 0 = code h s := by
      rw [List.getD_eq_getElem?_getD]
      unfold codes
      rw [List.getElem?_map, hv]
      rfl
    refine run_add_eq _ _ _ ?_ ?_ w1
    · rw [← e]; exact flat_take 2 (codes zs) j hjc
    · rw [flat_length]
      have : ((codes zs).take (j + 1)).length ≤ zs.length := by unfold codes; simp; omega
      omega
  clear hr hl hz
  go_enter Try.func8, Try.ntmps8
  go_wp2_with fail
  go_loopw [3, 8] (fun x i wr => ∃ j : Nat, j ≤ n ∧ i = .int .i64 j ∧ x = .string (S (flat 2 ((codes zs).take j))) ∧ Below w.heap.size w wr) (fun _ i _ => n - (intOf i).toNat)
  case atStart => exact ⟨0, Nat.zero_le _, rfl, rfl, Below.refl _ _⟩
  case round =>
    obtain ⟨j, hj, rfl, rfl, hb'⟩ := hrel
    have HBR := Lib.hid hb'
    clear hb'
    by_cases hlt : j < n
    · obtain ⟨⟨h, s⟩, hv⟩ : ∃ p, zs[j]? = some p := ⟨_, List.getElem?_eq_getElem (by rw [HL.out]; exact hlt)⟩
      have hc := pairCell (HR.out.keep HBR.out) j h s hv
      have c0 := hc.1
      have c1 := hc.2
      have ha := fun w1 => HA.out j h s w1 hv
      have hok := Lib.hid (HZ.out _ (List.mem_of_getElem? hv))
      clear hv hc
      go_wp2_with fail
      have HBA := Lib.hid (below_two HBR.out (below_alloc wr (.cells #[.int .u16 (h : Int), .int .u16 (s : Int)] 39)))
      refine (pairWrite_ok h s hok.out _).mono ?_
      rintro e w1 ⟨rfl, hb1⟩
      have HB1 := Lib.hid (below_two HBA.out hb1)
      clear hb1
      go_wp2_with fail
      go_roundw
      case rel => exact ⟨j + 1, by omega, by go_num, rfl, HB1.out⟩
      case measure => simp [intOf]; omega
    · obtain rfl : j = n := by omega
      have ht : (codes zs).take j = codes zs := List.take_of_length_le (by unfold codes; rw [List.length_map, HL.out]; exact Nat.le_refl _)
      go_wp2_with fail
      go_ret
      rw [ht]
      exact ⟨rfl, HBR.out⟩
end Go.Proofs.Ytgnkfpfgolhokaa
