/- Walks: the laws' lists of texts: zzFits3, between, texts. -/
import Derived.Test.YtkjpkenhpmjikaaDoorCert
import Derived.LoopTactic
namespace Go.Proofs.YtkjpkenhpmjikaaDoor
open Go.RowKit Go.Cv
set_option maxRecDepth 100000
set_option linter.unusedVariables false
def sv (zs : List (List UInt8)) : List Value := zs.map fun l => Value.string (S l)
theorem textCell {w : World} {b o : Nat} {zs : List (List UInt8)} (h : Rd w (some ⟨b, o, none⟩) (sv zs)) (j : Nat) (v : List UInt8) (hj : zs[j]? = some v) : w.cell? ⟨b, o + j, none⟩ = some (.string (S v)) := by
  rcases h with h | ⟨b', o', hA, h⟩
  · have : zs = [] := by cases zs with
      | nil => rfl
      | cons x r => simp [sv] at h
    rw [this] at hj; simp at hj
  · injection hA with hA
    injection hA with hb ho
    subst hb ho
    exact h j _ (by simp [sv, hj])
/-- No text of the list is too long for a statement. -/
def Fit (zs : List (List UInt8)) : Prop := ∀ v ∈ zs, List.length v ≤ 2147483647
theorem fit_snoc {zs : List (List UInt8)} {j : Nat} {v : List UInt8} (h : Fit (zs.take j)) (hj : zs[j]? = some v) (hv : ¬ (2147483647 : Int) < List.length v) : Fit (zs.take (j + 1)) := by
  obtain ⟨hl, hv2⟩ := List.getElem?_eq_some_iff.1 hj
  rw [List.take_succ_eq_append_getElem hl, hv2]
  intro u hu
  rcases List.mem_append.1 hu with hu | hu
  · exact h u hu
  · simp at hu; subst hu; exact Int.ofNat_le.1 (Int.not_lt.1 hv)
theorem inc_wrap {j n : Nat} (hj : j < n) (h : (n : Int) ≤ 2147483647) : wrap64 ((j : Int) + 1) = (j : Int) + 1 := by unfold wrap64; omega
theorem meas {j n : Nat} (h : j < n) : n - (intOf (Value.int .i64 ((j : Int) + 1))).toNat < n - (intOf (Value.int .i64 (j : Int))).toNat := by simp [intOf]; omega
theorem small_vec {n : Nat} (h : n ≤ 60000) : n ≤ 4611686018427387904 := by omega
theorem small_str {n : Nat} (h : n ≤ 60000) : n ≤ 9223372036854775807 := by omega
theorem fits0 (A : Option Addr) (c : Nat) (w : World) :
    Calls Tryd.prog 35 #[.slice A 0 c] w fun e w' => e = .returned (.bool true) ∧ w = w' := by
  go_enter Tryd.func35, Tryd.ntmps35
  go_wp2_with fail
  refine wp_loop_rounds 1 ?_
  rw [rounds_succ]
  go_wp2_with fail
  go_ret
  exact ⟨rfl, rfl⟩
def FitPost (zs : List (List UInt8)) (w : World) (e : Ending) (w' : World) : Prop := ∃ d : Bool, e = .returned (.bool d) ∧ (d = true → Fit zs) ∧ w = w'
theorem fits_big (A : Option Addr) (n c : Nat) (h1 : decide ((2147483647 : Int) < n) = true) (w : World) :
    Calls Tryd.prog 35 #[.slice A n c] w fun e w' => e = .returned (.bool false) ∧ w = w' := by
  go_enter Tryd.func35, Tryd.ntmps35
  go_wp2_with fail
  go_ret
  exact ⟨rfl, rfl⟩
set_option maxHeartbeats 1000000 in
theorem fits_any (b o n c : Nat) (zs : List (List UInt8)) (hl : zs.length = n) (h1 : decide ((2147483647 : Int) < n) = false) (w : World) (hr : Rd w (some ⟨b, o, none⟩) (sv zs)) :
    Calls Tryd.prog 35 #[.slice (some ⟨b, o, none⟩) n c] w (FitPost zs w) := by
  have HR := Lib.hid hr
  have HL := Lib.hid hl
  have H1 : Hid ((n : Int) ≤ 2147483647) := Lib.hid (by simpa using h1)
  clear hr hl
  go_enter Tryd.func35, Tryd.ntmps35
  go_wp2_with fail
  go_loop [10] (fun i => ∃ j : Nat, j ≤ n ∧ i = .int .i64 j ∧ Hid (Fit (zs.take j))) (fun i => n - (intOf i).toNat)
  case atStart => exact ⟨0, Nat.zero_le _, rfl, Lib.hid (by intro v h; simp at h)⟩
  case round =>
    obtain ⟨j, hj, rfl, hf⟩ := hrel
    by_cases hlt : j < n
    · obtain ⟨v, hv⟩ : ∃ v, zs[j]? = some v := ⟨_, List.getElem?_eq_getElem (by rw [HL.out]; exact hlt)⟩
      have hc := textCell HR.out j v hv
      have hs : (S v).size = v.length := S_size v
      have jw : wrap64 ((j : Int) + 1) = (j : Int) + 1 := inc_wrap hlt H1.out
      have HV := Lib.hid hv
      clear hv
      by_cases hbig : (2147483647 : Int) < v.length
      · have t1 : decide ((2147483647 : Int) < v.length) = true := by simpa using hbig
        clear hbig
        go_wp2_with fail
        go_ret
        exact ⟨false, rfl, by simp, rfl⟩
      · have t1 : decide ((2147483647 : Int) < v.length) = false := by simpa using hbig
        have HBG := Lib.hid hbig
        clear hbig
        go_wp2_with fail
        go_round
        case rel => exact ⟨j + 1, hlt, by rw [jw]; go_num, Lib.hid (fit_snoc hf.out HV.out HBG.out)⟩
        case measure => rw [jw]; exact meas hlt
    · obtain rfl : j = n := Nat.le_antisymm hj (Nat.le_of_not_lt hlt)
      have ht : zs.take j = zs := List.take_of_length_le (by rw [HL.out]; exact Nat.le_refl _)
      have HT := Lib.hid ht
      clear ht
      go_wp2_with fail
      go_ret
      refine ⟨true, rfl, fun _ => ?_, rfl⟩
      have := hf.out
      rwa [HT.out] at this
/-- The lists that the laws speak of. -/
def Few (a m : Nat) (zs : List (List UInt8)) : Prop := (∀ v ∈ zs, a ≤ List.length v ∧ List.length v ≤ m) ∧ (txt zs).length ≤ 60000
theorem few_snoc {a m : Nat} {zs : List (List UInt8)} {j t : Nat} {v : List UInt8} (h : Few a m (zs.take j)) (hj : zs[j]? = some v) (ht : t = (txt (zs.take j)).length) (h1 : ¬ (v.length : Int) < a) (h2 : ¬ (m : Int) < v.length) (h3 : ¬ (60000 : Int) < t + (v.length + 3)) :
    Few a m (zs.take (j + 1)) ∧ t + (v.length + 3) = (txt (zs.take (j + 1))).length := by
  obtain ⟨hl, hv2⟩ := List.getElem?_eq_some_iff.1 hj
  have e : (txt (zs.take (j + 1))).length = t + (v.length + 3) := by
    rw [List.take_succ_eq_append_getElem hl, hv2, txt_append, List.length_append, txt_cons, ← ht]
    simp [be_length, txt]
    omega
  refine ⟨⟨?_, by rw [e]; omega⟩, e.symm⟩
  rw [List.take_succ_eq_append_getElem hl, hv2]
  intro u hu
  rcases List.mem_append.1 hu with hu | hu
  · exact h.1 u hu
  · simp at hu; subst hu; omega
theorem between0 (A : Option Addr) (c : Nat) (x y : Int) (w : World) :
    Calls Tryd.prog 36 #[.slice A 0 c, .int .i64 x, .int .i64 y] w fun e w' => e = .returned (.bool false) ∧ w = w' := by
  go_enter Tryd.func36, Tryd.ntmps36
  go_wp2_with fail
  refine wp_loop_rounds 1 ?_
  rw [rounds_succ]
  go_wp2_with fail
  go_ret
  exact ⟨rfl, rfl⟩
def FewPost (a m : Nat) (zs : List (List UInt8)) (w : World) (e : Ending) (w' : World) : Prop := ∃ d : Bool, e = .returned (.bool d) ∧ (d = true → Few a m zs) ∧ w = w'
theorem add3_wrap (L : Nat) (h : L ≤ 2147483647) : wrap64 ((L : Int) + 3) = (L : Int) + 3 := by unfold wrap64; omega
theorem addt_wrap (t L : Nat) (h : L ≤ 2147483647) (ht : (t : Int) ≤ 60000) : wrap64 ((t : Int) + ((L : Int) + 3)) = (t : Int) + ((L : Int) + 3) := by unfold wrap64; omega
set_option maxHeartbeats 1000000 in
theorem between_any (b o n c a m : Nat) (zs : List (List UInt8)) (hl : zs.length = n) (h0 : 0 < n) (hn : (n : Int) ≤ 2147483647) (hfit : Fit zs) (w : World) (hr : Rd w (some ⟨b, o, none⟩) (sv zs)) :
    Calls Tryd.prog 36 #[.slice (some ⟨b, o, none⟩) n c, .int .i64 a, .int .i64 m] w (FewPost a m zs w) := by
  have HR := Lib.hid hr
  have HL := Lib.hid hl
  have H1 := Lib.hid hn
  have HF := Lib.hid hfit
  clear hr hl hn hfit
  go_enter Tryd.func36, Tryd.ntmps36
  go_wp2_with fail
  go_loop [7, 12] (fun u i => ∃ j t : Nat, j ≤ n ∧ i = .int .i64 j ∧ u = .int .i64 t ∧ (t : Int) ≤ 60000 ∧ Hid (t = (txt (zs.take j)).length) ∧ Hid (Few a m (zs.take j))) (fun _ i => n - (intOf i).toNat)
  case atStart => exact ⟨0, 0, Nat.zero_le _, rfl, rfl, by omega, Lib.hid (by simp [txt]), Lib.hid ⟨by intro v h; simp at h, by simp [txt]⟩⟩
  case round =>
    obtain ⟨j, t, hj, rfl, rfl, ht6, ht, hf⟩ := hrel
    by_cases hlt : j < n
    · obtain ⟨v, hv⟩ : ∃ v, zs[j]? = some v := ⟨_, List.getElem?_eq_getElem (by rw [HL.out]; exact hlt)⟩
      have hc := textCell HR.out j v hv
      have hs : (S v).size = v.length := S_size v
      have hfv : Hid (v.length ≤ 2147483647) := Lib.hid (HF.out v (List.mem_of_getElem? hv))
      have jw := inc_wrap hlt H1.out
      have lw := add3_wrap v.length hfv.out
      have tw := addt_wrap t v.length hfv.out ht6
      have HV := Lib.hid hv
      have HT6 := Lib.hid ht6
      clear hv ht6
      by_cases c1 : (v.length : Int) < a
      · have t1 : decide ((v.length : Int) < a) = true := by simpa using c1
        have t1' : v.length < a := by omega
        clear c1
        go_wp2_with fail
        go_ret
        exact ⟨false, rfl, by simp, rfl⟩
      · have t1 : decide ((v.length : Int) < a) = false := by simpa using c1
        have C1 := Lib.hid c1
        have t1' : ¬ v.length < a := by omega
        clear c1
        by_cases c2 : (m : Int) < v.length
        · have t2 : decide ((m : Int) < v.length) = true := by simpa using c2
          have t2' : m < v.length := by omega
          clear c2
          go_wp2_with fail
          go_ret
          exact ⟨false, rfl, by simp, rfl⟩
        · have t2 : decide ((m : Int) < v.length) = false := by simpa using c2
          have t2' : ¬ m < v.length := by omega
          have C2 := Lib.hid c2
          clear c2
          by_cases c3 : (60000 : Int) < t + (v.length + 3)
          · have t3 : decide ((60000 : Int) < t + (v.length + 3)) = true := by simpa using c3
            clear c3
            go_wp2_with fail
            go_ret
            exact ⟨false, rfl, by simp, rfl⟩
          · have t3 : decide ((60000 : Int) < t + (v.length + 3)) = false := by simpa using c3
            have C3 := Lib.hid c3
            clear c3
            go_wp2_with fail
            go_round
            case rel => exact ⟨j + 1, t + (v.length + 3), hlt, by rw [jw]; go_num, by go_num, by have := C3.out; omega, Lib.hid (few_snoc hf.out HV.out ht.out C1.out C2.out C3.out).2, Lib.hid (few_snoc hf.out HV.out ht.out C1.out C2.out C3.out).1⟩
            case measure => rw [jw]; exact meas hlt
    · obtain rfl : j = n := Nat.le_antisymm hj (Nat.le_of_not_lt hlt)
      have e : zs.take j = zs := List.take_of_length_le (by rw [HL.out]; exact Nat.le_refl _)
      have HT := Lib.hid e
      clear e
      go_wp2_with fail
      go_ret
      refine ⟨true, by simp, fun _ => ?_, rfl⟩
      have := hf.out
      rwa [HT.out] at this
set_option maxHeartbeats 1000000 in
theorem texts_any (b o n c : Nat) (zs : List (List UInt8)) (hl : zs.length = n) (hn : (n : Int) ≤ 100000) (hT : (txt zs).length ≤ 60000) (w : World) (hr : Rd w (some ⟨b, o, none⟩) (sv zs)) :
    Calls Tryd.prog 37 #[.slice (some ⟨b, o, none⟩) n c, .int .i64 3] w fun e w' => e = .returned (.string (S (txt zs))) ∧ Below w.heap.size w w' := by
  have HR := Lib.hid hr
  have HL := Lib.hid hl
  have HA : Hid (∀ j v w1, zs[j]? = some v → (Op.stringOp .add (S (txt (zs.take j))) (S (be 3 v.length ++ v))).run Tryd.prog w1 = .ok (.string (S (txt (zs.take (j + 1))))) w1 ∧ v.length ≤ 60000) := fun j v w1 hv => by
    obtain ⟨x, r, hx, _, h3, h4⟩ := txt_at zs j (List.getElem?_eq_some_iff.1 hv).1
    have hxv : x = v := by rw [hx] at hv; exact Option.some.inj hv
    subst hxv
    obtain ⟨hjl, hx2⟩ := List.getElem?_eq_some_iff.1 hv
    have h60 : (txt (zs.take (j + 1))).length ≤ 60000 := Nat.le_trans h4 hT
    refine ⟨run_add_eq _ _ _ ?_ (small_str h60) w1, by omega⟩
    rw [List.take_succ_eq_append_getElem hjl, hx2, txt_append, txt_cons]
    simp [txt]
  clear hr hl hT
  go_enter Tryd.func37, Tryd.ntmps37
  go_wp2_with fail
  go_loopw [5, 10] (fun x i wr => ∃ j : Nat, j ≤ n ∧ i = .int .i64 j ∧ x = .string (S (txt (zs.take j))) ∧ Below w.heap.size w wr) (fun _ i _ => n - (intOf i).toNat)
  case atStart => exact ⟨0, Nat.zero_le _, rfl, rfl, Below.refl _ _⟩
  case round =>
    obtain ⟨j, hj, rfl, rfl, hb'⟩ := hrel
    by_cases hlt : j < n
    · obtain ⟨v, hv⟩ : ∃ v, zs[j]? = some v := ⟨_, List.getElem?_eq_getElem (by rw [HL.out]; exact hlt)⟩
      have hc := textCell (HR.out.keep hb') j v hv
      have ha := fun w1 => (HA.out j v w1 hv).1
      have hvl := Lib.hid (HA.out j v w hv).2
      clear hv
      go_wp2_with fail
      refine (vec_any 3 (by omega) v (small_vec hvl.out) wr).mono ?_
      rintro e w1 ⟨rfl, hb1⟩
      go_wp2_with fail
      go_roundw
      case rel => exact ⟨j + 1, hlt, by go_num, rfl, below_two hb' hb1⟩
      case measure => exact meas hlt
    · obtain rfl : j = n := Nat.le_antisymm hj (Nat.le_of_not_lt hlt)
      have ht : zs.take j = zs := List.take_of_length_le (by rw [HL.out]; exact Nat.le_refl _)
      go_wp2_with fail
      go_ret
      rw [ht]
      exact ⟨rfl, hb'⟩
end Go.Proofs.YtkjpkenhpmjikaaDoor
