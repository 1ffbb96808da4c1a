/- Walks: lists of signature schemes: schemes, PairWrite, marks. -/
import Derived.Test.YtmappdbodnlepaaDoorPairs2
import Derived.Test.YtmappdbodnlepaaDoorNums
namespace Go.Proofs.YtmappdbodnlepaaDoor
open Go.RowKit Go.Cv
set_option maxRecDepth 100000
set_option linter.unusedVariables false
def pv (zs : List (Nat × Nat)) : List Value := zs.flatMap fun p => [Value.int .u16 (p.1 : Nat), Value.int .u16 (p.2 : Nat)]
theorem pv_length (zs : List (Nat × Nat)) : (pv zs).length = zs.length * 2 := by
  induction zs with
  | nil => rfl
  | cons z r ih =>
    have : pv (z :: r) = [Value.int .u16 (z.1 : Nat), Value.int .u16 (z.2 : Nat)] ++ pv r := rfl
    rw [this, List.length_append, ih, List.length_cons]
    simp; omega
theorem pv_at (zs : List (Nat × Nat)) (j h s : Nat) (hj : zs[j]? = some (h, s)) : (pv zs)[j * 2]? = some (.int .u16 h) ∧ (pv zs)[j * 2 + 1]? = some (.int .u16 s) := by
  induction zs generalizing j with
  | nil => simp at hj
  | cons z r ih =>
    have e : pv (z :: r) = Value.int .u16 (z.1 : Nat) :: Value.int .u16 (z.2 : Nat) :: pv r := rfl
    cases j with
    | zero => simp at hj; subst hj; exact ⟨rfl, rfl⟩
    | succ i =>
      have := ih i (by simpa using hj)
      rw [e, Nat.succ_mul]
      exact this
theorem pairCell {w : World} {b o : Nat} {zs : List (Nat × Nat)} (hr : Rd w (some ⟨b, o, none⟩) (pv zs)) (j h s : Nat) (hj : zs[j]? = some (h, s)) : w.cell? ⟨b, o + j * 2, none⟩ = some (.int .u16 h) ∧ w.cell? ⟨b, o + j * 2 + 1, none⟩ = some (.int .u16 s) := by
  obtain ⟨h1, h2⟩ := pv_at zs j h s hj
  rcases hr with hr | ⟨b', o', hA, hr⟩
  · rw [hr] at h1; simp at h1
  · injection hA with hA
    injection hA with hb ho
    subst hb ho
    exact ⟨hr _ _ h1, by rw [Nat.add_assoc]; exact hr _ _ h2⟩
def Sch (zs : List (Nat × Nat)) : Prop := ∀ p ∈ zs, OkP p.1 p.2
theorem sch_snoc {zs : List (Nat × Nat)} {j h s : Nat} (hs : Sch (zs.take j)) (hj : zs[j]? = some (h, s)) (ok : OkP h s) : Sch (zs.take (j + 1)) := by
  obtain ⟨hl, hv⟩ := List.getElem?_eq_some_iff.1 hj
  rw [List.take_succ_eq_append_getElem hl, hv]
  intro u hu
  rcases List.mem_append.1 hu with hu | hu
  · exact hs u hu
  · simp at hu; subst hu; exact ok
theorem inc_wrap2 {j n : Nat} (hj : j < n) (h : (n : Int) ≤ 2147483647) : wrap64 ((j : Int) + 1) = (j : Int) + 1 := by unfold wrap64; omega
theorem meas2 {j n : Nat} (h : j < n) : n - (intOf (Value.int .i64 ((j : Int) + 1))).toNat < n - (intOf (Value.int .i64 (j : Int))).toNat := by simp [intOf]; omega
def SchemesPost (zs : List (Nat × Nat)) (w : World) (e : Ending) (w' : World) : Prop := ∃ d : Bool, e = .returned (.bool d) ∧ (d = true → Sch zs ∧ 0 < zs.length ∧ zs.length < 1000) ∧ Below w.heap.size w w'
theorem OkP.split {h s : Nat} (ok : OkP h s) : ((s = 1 ∨ s = 3 ∨ s = 7) ∧ 2 ≤ h ∧ h ≤ 8) ∨ ((s = 2052 ∨ s = 2053 ∨ s = 2054 ∨ s = 2057 ∨ s = 2058 ∨ s = 2059) ∧ 4 ≤ h ∧ h ≤ 6) := by
  unfold OkP pairsOK at ok
  simp at ok
  omega
theorem pairWrite_ok (h s : Nat) (ok : OkP h s) (w : World) :
    Calls Tryd.prog 16 #[.agg #[.int .u16 h, .int .u16 s]] w fun e w' => e = .returned (.string (S (be 2 (code h s)))) ∧ Below w.heap.size w w' := by
  rcases ok.split with ⟨hs, h2, h8⟩ | ⟨hs, _⟩
  · have hs8 : s ≤ 7 := by omega
    have HP := Lib.hid (fun w => pss_no s (by omega) w)
    obtain ⟨l, hl⟩ : ∃ l, be 2 (code h s) = l := ⟨_, rfl⟩
    have hl2 : l = [UInt8.ofNat h, UInt8.ofNat s] := by
      rw [← hl]
      have e : code h s = h * 256 + s := by unfold code; rw [if_neg (by omega)]
      rw [e]
      simp [be]
      have e1 : (h * 256 + s) / 256 = h := by omega
      rw [e1]
    have hv : vs l = [.int .u8 h, .int .u8 s] := by
      rw [hl2]
      have e1 : (UInt8.ofNat h).toNat = h := by simp; omega
      have e2 : (UInt8.ofNat s).toNat = s := by simp; omega
      simp only [vs, List.map_cons, List.map_nil, e1, e2]
    have hlen : l.length = 2 := by rw [hl2]; rfl
    rw [hl]
    have m1 : (h : Int) % 256 = h := by omega
    have m2 : (s : Int) % 256 = s := by omega
    have HV := Lib.hid hv
    have HLN := Lib.hid hlen
    clear hl hl2 hv hlen hs h2 h8 hs8 ok
    go_enter Tryd.func16, Tryd.ntmps16
    go_wp2_with fail
    refine (HP.out _).mono ?_
    rintro e w1 ⟨rfl, rfl⟩
    go_wp2_with fail
    refine upon_conv_bs 39 9 5 Tryd.underlying39 Tryd.underlying5 Tryd.underlying9 l _ _ _ HLN.out (by rw [HV.out]; have hh := rd_pair (w.alloc (.cells #[.int .u16 (h : Int), .int .u16 (s : Int)] 33)) 5 (.int .u8 (h : Int)) (.int .u8 (s : Int)); rw [World.size_alloc] at hh; exact hh) ?_
    go_wp2_with fail
    go_ret
    exact ⟨rfl, below_two (below_alloc _ _) (below_alloc _ _)⟩
  · have e : code h s = s := by unfold code; rw [if_pos (by omega)]
    rw [e]
    have HP := Lib.hid (fun w => pss_yes s hs w)
    have HN := Lib.hid (fun w => recNum2 s hs w)
    have m0 : (0 : Int) ≤ s := by omega
    have m1 : (s : Int) ≤ 60000 := by omega
    clear hs e ok
    go_enter Tryd.func16, Tryd.ntmps16
    go_wp2_with fail
    refine (HP.out _).mono ?_
    rintro e w1 ⟨rfl, rfl⟩
    go_wp2_with fail
    refine (HN.out _).mono ?_
    rintro e w1 ⟨rfl, hb1⟩
    go_wp2_with fail
    go_ret
    exact ⟨rfl, below_two (below_alloc _ _) hb1⟩
def codes (zs : List (Nat × Nat)) : List Nat := zs.map fun p => code p.1 p.2
end Go.Proofs.YtmappdbodnlepaaDoor
