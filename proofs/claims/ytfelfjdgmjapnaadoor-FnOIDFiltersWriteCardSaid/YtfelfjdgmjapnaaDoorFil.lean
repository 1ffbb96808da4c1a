/- Walks: the laws' lists of filters: zzFits12, filters, sieves. -/
import Derived.Test.YtfelfjdgmjapnaaDoorBig
import Derived.Test.YtfelfjdgmjapnaaDoorOps6
import Derived.Test.YtfelfjdgmjapnaaDoorRow
import Derived.LoopTactic
import Derived.Outline
import Derived.Deep.RegionHeld3
import Derived.Deep.RegionHeldLaw
namespace Go.Proofs.YtfelfjdgmjapnaaDoor
open Go.RowKit Go.Cv
set_option maxRecDepth 100000
set_option linter.unusedVariables false
def fv (zs : List (List UInt8 × List UInt8)) : List Value := zs.flatMap fun p => [Value.string (S p.1), Value.string (S p.2)]
theorem fv_length (zs : List (List UInt8 × List UInt8)) : (fv zs).length = zs.length * 2 := by
  induction zs with
  | nil => rfl
  | cons z r ih =>
    have : fv (z :: r) = [Value.string (S z.1), Value.string (S z.2)] ++ fv r := rfl
    rw [this, List.length_append, ih, List.length_cons]
    simp; omega
theorem fv_at (zs : List (List UInt8 × List UInt8)) (j : Nat) (a b : List UInt8) (hj : zs[j]? = some (a, b)) : (fv zs)[j * 2]? = some (.string (S a)) ∧ (fv zs)[j * 2 + 1]? = some (.string (S b)) := by
  induction zs generalizing j with
  | nil => simp at hj
  | cons z r ih =>
    have e : fv (z :: r) = Value.string (S z.1) :: Value.string (S z.2) :: fv r := rfl
    cases j with
    | zero => simp at hj; subst hj; exact ⟨rfl, rfl⟩
    | succ i =>
      have := ih i (by simpa using hj)
      rw [e, Nat.succ_mul]
      exact this
theorem filCell {w : World} {b o : Nat} {zs : List (List UInt8 × List UInt8)} (hr : Rd w (some ⟨b, o, none⟩) (fv zs)) (j : Nat) (x y : List UInt8) (hj : zs[j]? = some (x, y)) : w.cell? ⟨b, o + j * 2, none⟩ = some (.string (S x)) ∧ w.cell? ⟨b, o + j * 2 + 1, none⟩ = some (.string (S y)) := by
  obtain ⟨h1, h2⟩ := fv_at zs j x y hj
  rcases hr with hr | ⟨b', o', hA, hr⟩
  · rw [hr] at h1; simp at h1
  · injection hA with hA
    injection hA with hb ho
    subst hb ho
    exact ⟨hr _ _ h1, by rw [Nat.add_assoc]; exact hr _ _ h2⟩
theorem finc {j n : Nat} (hj : j < n) (h : (n : Int) ≤ 2147483647) : wrap64 ((j : Int) + 1) = (j : Int) + 1 := by unfold wrap64; omega
theorem fmeas {j n : Nat} (h : j < n) : n - (intOf (Value.int .i64 ((j : Int) + 1))).toNat < n - (intOf (Value.int .i64 (j : Int))).toNat := by simp [intOf]; omega
/-! the bound of sizes -/
def FitF (zs : List (List UInt8 × List UInt8)) : Prop := ∀ p ∈ zs, List.length p.1 ≤ 2147483647 ∧ List.length p.2 ≤ 2147483647
theorem fitf_snoc {zs : List (List UInt8 × List UInt8)} {j : Nat} {p : List UInt8 × List UInt8} (h : FitF (zs.take j)) (hj : zs[j]? = some p) (hp : List.length p.1 ≤ 2147483647 ∧ List.length p.2 ≤ 2147483647) : FitF (zs.take (j + 1)) := by
  obtain ⟨hl, hv2⟩ := List.getElem?_eq_some_iff.1 hj
  rw [List.take_succ_eq_append_getElem hl, hv2]
  intro u hu
  rcases List.mem_append.1 hu with hu | hu
  · exact h u hu
  · simp at hu; subst hu; exact hp
def OneFit (la lb : Nat) (w : World) (e : Ending) (w' : World) : Prop := ∃ d : Bool, e = .returned (.bool d) ∧ (d = true → la ≤ 2147483647 ∧ lb ≤ 2147483647) ∧ Below w.heap.size w w'
theorem fit1_any (a b : List UInt8) (la lb : Nat) (ha : a.length = la) (hb : b.length = lb) (w : World) :
    Calls Tryd.prog 28 #[.agg #[.string (S a), .string (S b)]] w (OneFit la lb w) := by
  have sa : (S a).size = la := by rw [S_size, ha]
  have sb : (S b).size = lb := by rw [S_size, hb]
  clear ha hb
  by_cases h1 : (2147483647 : Int) < la
  · have t1 : decide ((2147483647 : Int) < la) = true := by simpa using h1
    clear h1
    go_enter Tryd.func28, Tryd.ntmps28
    go_wp2_with fail
    go_ret
    exact ⟨false, rfl, by simp, below_alloc _ _⟩
  · have t1 : decide ((2147483647 : Int) < la) = false := by simpa using h1
    have H1 := Lib.hid h1
    clear h1
    by_cases h2 : (2147483647 : Int) < lb
    · have t2 : decide ((2147483647 : Int) < lb) = true := by simpa using h2
      clear h2
      go_enter Tryd.func28, Tryd.ntmps28
      go_wp2_with fail
      go_ret
      exact ⟨false, rfl, by simp, below_alloc _ _⟩
    · have t2 : decide ((2147483647 : Int) < lb) = false := by simpa using h2
      have H2 := Lib.hid h2
      clear h2
      go_enter Tryd.func28, Tryd.ntmps28
      go_wp2_with fail
      go_ret
      exact ⟨true, rfl, fun _ => ⟨by have := H1.out; omega, by have := H2.out; omega⟩, below_alloc _ _⟩
theorem fits12_0 (A : Option Addr) (c : Nat) (w : World) :
    Calls Tryd.prog 10 #[.slice A 0 c] w fun e w' => e = .returned (.bool true) ∧ w = w' := by
  go_enter Tryd.func10, Tryd.ntmps10
  go_wp2_with fail
  refine wp_loop_rounds 1 ?_
  rw [rounds_succ]
  go_wp2_with fail
  go_ret
  exact ⟨rfl, rfl⟩
theorem fits12_big (A : Option Addr) (n c : Nat) (h1 : decide ((2147483647 : Int) < n) = true) (w : World) :
    Calls Tryd.prog 10 #[.slice A n c] w fun e w' => e = .returned (.bool false) ∧ w = w' := by
  go_enter Tryd.func10, Tryd.ntmps10
  go_wp2_with fail
  go_ret
  exact ⟨rfl, rfl⟩
def FitFPost (zs : List (List UInt8 × List UInt8)) (w : World) (e : Ending) (w' : World) : Prop := ∃ d : Bool, e = .returned (.bool d) ∧ (d = true → FitF zs) ∧ Below w.heap.size w w'
set_option maxHeartbeats 1000000 in
theorem fits12_any (b o n c : Nat) (zs : List (List UInt8 × List UInt8)) (hl : zs.length = n) (h1 : decide ((2147483647 : Int) < n) = false) (w : World) (hr : Rd w (some ⟨b, o, none⟩) (fv zs)) :
    Calls Tryd.prog 10 #[.slice (some ⟨b, o, none⟩) n c] w (FitFPost zs w) := by
  have HR := Lib.hid hr
  have HL := Lib.hid hl
  have H1 : Hid ((n : Int) ≤ 2147483647) := Lib.hid (by simpa using h1)
  clear hr hl
  go_enter Tryd.func10, Tryd.ntmps10
  go_wp2_with fail
  go_loopw [10] (fun i wr => ∃ j : Nat, j ≤ n ∧ i = .int .i64 j ∧ Hid (FitF (zs.take j)) ∧ Below w.heap.size w wr) (fun i _ => n - (intOf i).toNat)
  case atStart => exact ⟨0, Nat.zero_le _, rfl, Lib.hid (by intro v h; simp at h), Below.refl _ _⟩
  case round =>
    obtain ⟨j, hj, rfl, hf, hb'⟩ := hrel
    have HBR := Lib.hid hb'
    clear hb'
    by_cases hlt : j < n
    · obtain ⟨⟨x, y⟩, hv⟩ : ∃ p, zs[j]? = some p := ⟨_, List.getElem?_eq_getElem (by rw [HL.out]; exact hlt)⟩
      obtain ⟨c0, c1⟩ := filCell (HR.out.keep HBR.out) j x y hv
      have jw := finc hlt H1.out
      have HV := Lib.hid hv
      clear hv
      go_wp2_with fail
      have hba := below_alloc wr (.cells #[.string (S x), .string (S y)] 79)
      have HBA := Lib.hid (below_two HBR.out hba)
      clear hba
      refine (fit1_any x y _ _ rfl rfl _).mono ?_
      rintro e w1 ⟨d, rfl, hd, hb1⟩
      have HB1 := Lib.hid (below_two HBA.out hb1)
      clear hb1
      cases d with
      | false =>
        clear hd
        go_wp2_with fail
        go_ret
        exact ⟨false, rfl, by simp, HB1.out⟩
      | true =>
        have hok := Lib.hid (hd rfl)
        clear hd
        go_wp2_with fail
        go_roundw
        case rel => exact ⟨j + 1, hlt, by rw [jw]; go_num, Lib.hid (fitf_snoc hf.out HV.out hok.out), HB1.out⟩
        case measure => rw [jw]; exact fmeas hlt
    · obtain rfl : j = n := Nat.le_antisymm hj (Nat.le_of_not_lt hlt)
      have e : zs.take j = zs := List.take_of_length_le (by rw [HL.out]; exact Nat.le_refl _)
      have HT := Lib.hid e
      clear e
      go_wp2_with fail
      go_ret
      refine ⟨true, rfl, fun _ => ?_, HBR.out⟩
      have := hf.out
      rwa [HT.out] at this
/-! the lists that the laws speak of -/
def filOne (p : List UInt8 × List UInt8) : List UInt8 := (be 1 p.1.length ++ p.1) ++ (be 2 p.2.length ++ p.2)
def filOut (zs : List (List UInt8 × List UInt8)) : List UInt8 := zs.flatMap filOne
def filTot (zs : List (List UInt8 × List UInt8)) : Nat := (zs.map fun p => p.1.length + p.2.length).sum
theorem filTot_next {zs : List (List UInt8 × List UInt8)} {j : Nat} {x y : List UInt8} (hj : zs[j]? = some (x, y)) : filTot (zs.take (j + 1)) = filTot (zs.take j) + (x.length + y.length) := by
  obtain ⟨hl, hv⟩ := List.getElem?_eq_some_iff.1 hj
  rw [List.take_succ_eq_append_getElem hl, hv]
  simp [filTot]
theorem filOut_next {zs : List (List UInt8 × List UInt8)} {j : Nat} {x y : List UInt8} (hj : zs[j]? = some (x, y)) : filOut (zs.take (j + 1)) = filOut (zs.take j) ++ ((be 1 x.length ++ x) ++ (be 2 y.length ++ y)) := by
  obtain ⟨hl, hv⟩ := List.getElem?_eq_some_iff.1 hj
  rw [List.take_succ_eq_append_getElem hl, hv]
  simp [filOut, filOne]
theorem filOut_len (zs : List (List UInt8 × List UInt8)) : (filOut zs).length = filTot zs + 3 * zs.length := by
  induction zs with
  | nil => rfl
  | cons z r ih =>
    have e1 : filOut (z :: r) = filOne z ++ filOut r := rfl
    have e2 : filTot (z :: r) = (z.1.length + z.2.length) + filTot r := by simp [filTot]
    rw [e1, e2, List.length_append, ih, List.length_cons]
    simp only [filOne, List.length_append, be_length]; omega
theorem filTot_take (zs : List (List UInt8 × List UInt8)) (j : Nat) : filTot (zs.take j) ≤ filTot zs := by
  induction zs generalizing j with
  | nil => simp
  | cons z r ih =>
    cases j with
    | zero => simp [filTot]
    | succ i => have := ih i; simp [filTot] at this ⊢; omega
structure FilP (zs : List (List UInt8 × List UInt8)) : Prop where
  oid : ∀ p ∈ zs, 1 ≤ List.length p.1 ∧ List.length p.1 ≤ 255
  tot : filTot zs ≤ 60000
  dist : ∀ (i j : Nat) (p q : List UInt8 × List UInt8), i < j → zs[i]? = some p → zs[j]? = some q → p.1 ≠ q.1
theorem filp_nil (zs : List (List UInt8 × List UInt8)) : FilP (zs.take 0) := ⟨by simp, by simp [filTot], by simp⟩
theorem filp_snoc {zs : List (List UInt8 × List UInt8)} {j : Nat} {x y : List UInt8} (h : FilP (zs.take j)) (hj : zs[j]? = some (x, y)) (h1 : 1 ≤ x.length) (h2 : x.length ≤ 255) (h3 : filTot (zs.take (j + 1)) ≤ 60000) (h4 : ∀ k, k < j → ∀ p, zs[k]? = some p → p.1 ≠ x) : FilP (zs.take (j + 1)) := by
  obtain ⟨hl, hv⟩ := List.getElem?_eq_some_iff.1 hj
  refine ⟨fun u hu => ?_, h3, fun i k p q hik hp hq => ?_⟩
  · rw [List.take_succ_eq_append_getElem hl, hv] at hu
    rcases List.mem_append.1 hu with hu | hu
    · exact h.oid u hu
    · simp at hu; subst hu; exact ⟨h1, h2⟩
  · rw [List.getElem?_take] at hp hq
    split at hp
    case isFalse => simp at hp
    split at hq
    case isFalse => simp at hq
    by_cases hk : k < j
    · exact h.dist i k p q hik (by rw [List.getElem?_take, if_pos (by omega)]; exact hp) (by rw [List.getElem?_take, if_pos hk]; exact hq)
    · obtain rfl : k = j := by omega
      rw [hj] at hq
      obtain rfl := Option.some.inj hq
      exact h4 i hik p hp
def FilPost (zs : List (List UInt8 × List UInt8)) (w : World) (e : Ending) (w' : World) : Prop := ∃ d : Bool, e = .returned (.bool d) ∧ (d = true → FilP zs ∧ 0 < zs.length ∧ zs.length < 1000) ∧ Below w.heap.size w w'
theorem filters0 (A : Option Addr) (c : Nat) (w : World) :
    Calls Tryd.prog 11 #[.slice A 0 c] w fun e w' => e = .returned (.bool false) ∧ w = w' := by
  go_enter Tryd.func11, Tryd.ntmps11
  go_wp2_with fail
  refine wp_loop_rounds 1 ?_
  rw [rounds_succ]
  go_wp2_with fail
  go_ret
  exact ⟨rfl, rfl⟩
theorem upto_snoc {zs : List (List UInt8 × List UInt8)} {k : Nat} {x x2 y2 : List UInt8} (hd : ∀ i, i < k → ∀ p, zs[i]? = some p → p.1 ≠ x) (hv : zs[k]? = some (x2, y2)) (hne : x2 ≠ x) : ∀ i, i < k + 1 → ∀ p, zs[i]? = some p → p.1 ≠ x := by
  intro i hi p hp
  by_cases hik : i < k
  · exact hd i hik p hp
  · obtain rfl : i = k := by omega
    rw [hv] at hp
    obtain rfl := Option.some.inj hp
    exact hne
theorem str_ne {x y : List UInt8} (h : x ≠ y) : ((S x).toList == (S y).toList) = false := by rw [S_toList, S_toList]; simpa using h
theorem sum1_wrap {la lb m : Nat} (h1 : la ≤ 2147483647) (h2 : lb ≤ 2147483647) (hm : la + lb = m) : wrap64 ((la : Int) + lb) = (m : Int) := by unfold wrap64; omega
theorem sum2_wrap {s m t : Nat} (h1 : s ≤ 60000) (h2 : m ≤ 4294967294) (hm : s + m = t) : wrap64 ((s : Int) + m) = (t : Int) := by unfold wrap64; omega
theorem sum_le {la lb m : Nat} (h1 : la ≤ 2147483647) (h2 : lb ≤ 2147483647) (hm : la + lb = m) : m ≤ 4294967294 := by omega
set_option maxHeartbeats 2000000 in
theorem filters_any (b o n c : Nat) (zs : List (List UInt8 × List UInt8)) (hl : zs.length = n) (h0 : 0 < n) (hn : Hid ((n : Int) ≤ 2147483647)) (hnc : n ≤ c) (hz : FitF zs) (w : World) (hr : Rd w (some ⟨b, o, none⟩) (fv zs)) :
    Calls Tryd.prog 11 #[.slice (some ⟨b, o, none⟩) n c] w (FilPost zs w) := by
  have HR := Lib.hid hr
  have HL := Lib.hid hl
  have HZ := Lib.hid hz
  have HNC := Lib.hid hnc
  have H0 := Lib.hid h0
  clear hr hl h0 hnc hz
  go_enter Tryd.func11, Tryd.ntmps11
  go_wp2_with fail
  go_loopw [3, 10] (fun s i wr => ∃ j : Nat, j ≤ n ∧ i = .int .i64 j ∧ s = .int .i64 (filTot (zs.take j) : Nat) ∧ Hid (FilP (zs.take j)) ∧ Below w.heap.size w wr) (fun _ i _ => n - (intOf i).toNat)
  case atStart => exact ⟨0, Nat.zero_le _, rfl, rfl, Lib.hid (filp_nil zs), Below.refl _ _⟩
  case round =>
    obtain ⟨j, hj, rfl, rfl, hf, hb'⟩ := hrel
    have HBR := Lib.hid hb'
    clear hb'
    by_cases hlt : j < n
    · obtain ⟨⟨x, y⟩, hv⟩ : ∃ p, zs[j]? = some p := ⟨_, List.getElem?_eq_getElem (by rw [HL.out]; exact hlt)⟩
      obtain ⟨c0, c1⟩ := filCell (HR.out.keep HBR.out) j x y hv
      have jw := finc hlt hn.out
      have hfit := HZ.out _ (List.mem_of_getElem? hv)
      obtain ⟨la, hla⟩ : ∃ k, x.length = k := ⟨_, rfl⟩
      obtain ⟨lb, hlb⟩ : ∃ k, y.length = k := ⟨_, rfl⟩
      obtain ⟨m, hm⟩ : ∃ k, la + lb = k := ⟨_, rfl⟩
      obtain ⟨s, hs⟩ : ∃ k, filTot (zs.take j) = k := ⟨_, rfl⟩
      obtain ⟨t, ht⟩ : ∃ k, s + m = k := ⟨_, rfl⟩
      have hs6 : s ≤ 60000 := by rw [← hs]; exact hf.out.tot
      have hnx : filTot (zs.take (j + 1)) = t := by rw [filTot_next hv, hs, hla, hlb, hm, ht]
      rw [hla, hlb] at hfit
      have e1 := sum1_wrap hfit.1 hfit.2 hm
      have e2 := sum2_wrap hs6 (sum_le hfit.1 hfit.2 hm) ht
      have sa : (S x).size = la := by rw [S_size, hla]
      have sb : (S y).size = lb := by rw [S_size, hlb]
      rw [hs]
      have HV := Lib.hid hv
      have HLA := Lib.hid hla
      have HNX := Lib.hid hnx
      clear hv hfit hla hlb hm hs ht hs6 hnx
      by_cases p1 : la < 1
      · have t1 : decide ((la : Int) < 1) = true := by simp; omega
        obtain rfl : la = 0 := by omega
        go_wp2_with fail
        go_ret
        exact ⟨false, rfl, by simp, below_two HBR.out (below_alloc _ _)⟩
      have t1 : decide ((la : Int) < 1) = false := by simp; omega
      have t1' : ¬ la = 0 := by omega
      by_cases p2 : 255 < la
      · have t2 : decide ((255 : Int) < la) = true := by simp; omega
        go_wp2_with fail
        go_ret
        exact ⟨false, rfl, by simp, below_two HBR.out (below_alloc _ _)⟩
      have t2 : decide ((255 : Int) < la) = false := by simp; omega
      by_cases p3 : 60000 < t
      · have t3 : decide ((60000 : Int) < t) = true := by simp; omega
        go_wp2_with fail
        go_ret
        exact ⟨false, rfl, by simp, below_two HBR.out (below_alloc _ _)⟩
      have t3 : decide ((60000 : Int) < t) = false := by simp; omega
      have P1 := Lib.hid p1
      have P2 := Lib.hid p2
      have P3 := Lib.hid p3
      have hjc : (j : Int) ≤ c := by have := HNC.out; omega
      clear p1 p2 p3
      go_wp2_with fail
      have HX := Lib.hid (Blk.new wr 79 #[.string (S x), .string (S y)])
      have HB1 := Lib.hid (below_two HBR.out (below_alloc wr (.cells #[.string (S x), .string (S y)] 79)))
      generalize wr.alloc (.cells #[.string (S x), .string (S y)] 79) = w1 at *
      go_loopw [42] (fun k wr2 => ∃ kk : Nat, kk ≤ j ∧ k = .int .i64 kk ∧ Hid (∀ i, i < kk → ∀ p, zs[i]? = some p → p.1 ≠ x) ∧ Below w1.heap.size w1 wr2) (fun k _ => j - (intOf k).toNat)
      case atStart => exact ⟨0, Nat.zero_le _, rfl, Lib.hid (by intro i h; omega), Below.refl _ _⟩
      case round =>
        obtain ⟨k, hk, rfl, hd, hb2⟩ := hrel
        have HB2 := Lib.hid hb2
        clear hb2
        by_cases hkl : k < j
        · obtain ⟨⟨x2, y2⟩, hv2⟩ : ∃ p, zs[k]? = some p := ⟨_, List.getElem?_eq_getElem (by rw [HL.out]; omega)⟩
          obtain ⟨g0, g1⟩ := filCell (HR.out.keep (below_two HB1.out HB2.out)) k x2 y2 hv2
          have kw := finc hkl (by have := hn.out; omega)
          have hx0 := ((HX.out.keep HB2.out).cell 0).trans (rfl : _ = some (Value.string (S x)))
          have hlt2 := block_lt hx0
          have HV2 := Lib.hid hv2
          clear hv2 e2 jw
          by_cases hxx : x2 = x
          · subst hxx
            have he : ((S x2).toList == (S x2).toList) = true := by simp
            go_wp2_with fail
            go_ret
            exact ⟨false, rfl, by simp, below_two (below_two HB1.out HB2.out) (below_alloc _ _)⟩
          · have he := str_ne hxx
            have HNE := Lib.hid hxx
            clear hxx
            go_wp2_with fail
            go_roundw
            case rel => exact ⟨k + 1, hkl, by rw [kw]; go_num, Lib.hid (upto_snoc hd.out HV2.out HNE.out), below_two HB2.out (below_alloc _ _)⟩
            case measure => rw [kw]; exact fmeas hkl
        · obtain rfl : k = j := Nat.le_antisymm hk (Nat.le_of_not_lt hkl)
          have HE2 := Lib.hid e2
          clear e2
          go_wp2_with fail
          go_roundw
          case rel => exact ⟨k + 1, hlt, by rw [jw]; go_num, by rw [HE2.out, HNX.out], Lib.hid (filp_snoc hf.out HV.out (by rw [HLA.out]; have := P1.out; omega) (by rw [HLA.out]; have := P2.out; omega) (by rw [HNX.out]; have := P3.out; omega) hd.out), below_two HB1.out HB2.out⟩
          case measure => rw [jw]; exact fmeas hlt
    · obtain rfl : j = n := Nat.le_antisymm hj (Nat.le_of_not_lt hlt)
      have e : zs.take j = zs := List.take_of_length_le (by rw [HL.out]; exact Nat.le_refl _)
      have HT := Lib.hid e
      clear e
      have j0 := H0.out
      by_cases hk : (j : Int) < 1000
      · have t1 : decide ((j : Int) < 1000) = true := by simpa using hk
        have HK := Lib.hid hk
        clear hk
        go_wp2_with fail
        go_ret
        refine ⟨true, by simp, fun _ => ⟨?_, by rw [HL.out]; exact j0, by rw [HL.out]; have := HK.out; omega⟩, HBR.out⟩
        have := hf.out
        rwa [HT.out] at this
      · have t1 : decide ((j : Int) < 1000) = false := by simpa using hk
        clear hk
        go_wp2_with fail
        go_ret
        exact ⟨false, by simp, by simp, HBR.out⟩
set_option maxHeartbeats 1000000 in
theorem sieves_any (b o n c : Nat) (zs : List (List UInt8 × List UInt8)) (hl : zs.length = n) (hn : n < 1000) (hz : FilP zs) (w : World) (hr : Rd w (some ⟨b, o, none⟩) (fv zs)) :
    Calls Tryd.prog 14 #[.slice (some ⟨b, o, none⟩) n c] w fun e w' => e = .returned (.string (S (filOut zs))) ∧ Below w.heap.size w w' := by
  have HR := Lib.hid hr
  have HL := Lib.hid hl
  have HN := Lib.hid hn
  have HZ := Lib.hid hz
  clear hr hl hn hz
  go_enter Tryd.func14, Tryd.ntmps14
  go_wp2_with fail
  go_loopw [3, 8] (fun s i wr => ∃ j : Nat, j ≤ n ∧ i = .int .i64 j ∧ s = .string (S (filOut (zs.take j))) ∧ Below w.heap.size w wr) (fun _ i _ => n - (intOf i).toNat)
  case atStart => exact ⟨0, Nat.zero_le _, rfl, rfl, Below.refl _ _⟩
  case round =>
    obtain ⟨j, hj, rfl, rfl, hb'⟩ := hrel
    have HBR := Lib.hid hb'
    clear hb'
    by_cases hlt : j < n
    · obtain ⟨⟨x, y⟩, hv⟩ : ∃ p, zs[j]? = some p := ⟨_, List.getElem?_eq_getElem (by rw [HL.out]; exact hlt)⟩
      obtain ⟨c0, c1⟩ := filCell (HR.out.keep HBR.out) j x y hv
      have jw := finc hlt (by have := HN.out; omega)
      obtain ⟨v1, hv1⟩ : ∃ v, be 1 x.length ++ x = v := ⟨_, rfl⟩
      obtain ⟨v2, hv2⟩ : ∃ v, be 2 y.length ++ y = v := ⟨_, rfl⟩
      have htk := filTot_take zs (j + 1)
      have hlen : (filOut (zs.take (j + 1))).length ≤ 100000 := by
        rw [filOut_len, List.length_take]
        have := HZ.out.tot
        have := HN.out
        omega
      have hxl : x.length ≤ 255 := (HZ.out.oid _ (List.mem_of_getElem? hv)).2
      have hnx := filOut_next hv
      rw [hv1, hv2] at hnx
      have hyl : y.length ≤ 100000 := by
        rw [hnx] at hlen
        simp only [List.length_append] at hlen
        rw [← hv2] at hlen
        simp only [List.length_append, be_length] at hlen
        omega
      have HV1 : Hid (∀ W, Calls Tryd.prog 7 #[.string (S x), .int .i64 1] W fun e w' => e = .returned (.string (S v1)) ∧ Below W.heap.size W w') := Lib.hid (fun W => by rw [← hv1]; exact vec_any 1 (by omega) x (by omega) W)
      have HV2 : Hid (∀ W, Calls Tryd.prog 7 #[.string (S y), .int .i64 2] W fun e w' => e = .returned (.string (S v2)) ∧ Below W.heap.size W w') := Lib.hid (fun W => by rw [← hv2]; exact vec_any 2 (by omega) y (by omega) W)
      obtain ⟨v3, hv3⟩ : ∃ v, v1 ++ v2 = v := ⟨_, rfl⟩
      rw [hv3] at hnx
      have l3 : v3.length ≤ 100000 := by rw [hnx, List.length_append] at hlen; omega
      have a1 := fun w1 => run_add_eq (P := Tryd.prog) v1 v2 v3 hv3 (by omega) w1
      have a2 := fun w1 => run_add_eq (P := Tryd.prog) (filOut (zs.take j)) v3 (filOut (zs.take (j + 1))) hnx.symm (by omega) w1
      clear hv hv1 hv2 hv3 htk hlen hxl hnx hyl l3
      obtain ⟨nxt, hnxt⟩ : ∃ k, filOut (zs.take (j + 1)) = k := ⟨_, rfl⟩
      rw [hnxt] at a2
      have HNXT := Lib.hid hnxt
      clear hnxt
      go_wp2_with fail
      have HX := Lib.hid (Blk.new wr 79 #[.string (S x), .string (S y)])
      have HB1 := Lib.hid (below_two HBR.out (below_alloc wr (.cells #[.string (S x), .string (S y)] 79)))
      obtain ⟨xb, hxb⟩ : ∃ k, wr.heap.size = k := ⟨_, rfl⟩
      rw [hxb] at HX
      simp only [hxb]
      clear hxb c0 c1
      generalize wr.alloc (.cells #[.string (S x), .string (S y)] 79) = w1 at *
      have HKP : Hid (∀ w', Below w1.heap.size w1 w' → w'.cell? ⟨xb, 0, none⟩ = some (.string (S x)) ∧ w'.cell? ⟨xb, 1, none⟩ = some (.string (S y))) := Lib.hid (fun w' hb => ⟨((HX.out.keep hb).cell 0).trans rfl, ((HX.out.keep hb).cell 1).trans rfl⟩)
      go_region_held_law (fun w' => w'.cell? ⟨xb, 0, none⟩ = some (.string (S x)) ∧ w'.cell? ⟨xb, 1, none⟩ = some (.string (S y)))
        ((refine HKP.out _ ?_; (repeat (first | exact Below.refl _ _ | refine below_two ?_ hb2 | refine below_two ?_ hb3 | refine Below.drew ?_ | refine below_two ?_ (below_alloc _ _))); done)) (first
        | (go_at_call 7; with_reducible refine (HV1.out _).mono ?_; rintro e w2 ⟨rfl, hb2⟩)
        | (go_at_call 7; with_reducible refine (HV2.out _).mono ?_; rintro e w3 ⟨rfl, hb3⟩))
      all_goals
        go_wp2_with fail
        go_roundw
        case rel => exact ⟨j + 1, hlt, by rw [jw]; go_num, by rw [HNXT.out], below_two HB1.out (by (repeat (first | exact Below.refl _ _ | refine below_two ?_ hb2 | refine below_two ?_ hb3 | refine Below.drew ?_ | refine below_two ?_ (below_alloc _ _))))⟩
        case measure => rw [jw]; exact fmeas hlt
    · obtain rfl : j = n := Nat.le_antisymm hj (Nat.le_of_not_lt hlt)
      have e : zs.take j = zs := List.take_of_length_le (by rw [HL.out]; exact Nat.le_refl _)
      have HT := Lib.hid e
      clear e
      go_wp2_with fail
      go_ret
      exact ⟨by rw [HT.out]; rfl, HBR.out⟩
end Go.Proofs.YtfelfjdgmjapnaaDoor
