/- Walks: the law of cookies that are refused. -/
import Derived.Test.YtgnkfpfgolhokaaDoorCkw
namespace Go.Proofs.YtgnkfpfgolhokaaDoor
open Go.RowKit Go.Cv
set_option maxRecDepth 100000
set_option linter.unusedVariables false
theorem text_no (A : Option Addr) (n c : Nat) (ty : TypeId) (p : Value) (w : World) :
    Calls Tryd.prog 25 #[.slice A n c, .iface ty p] w fun e w' => e = .returned (.tuple #[.string (S []), .bool false]) ∧ w = w' := by
  go_enter Tryd.func25, Tryd.ntmps25
  go_wp2_with fail
  go_ret2
  exact ⟨rfl, rfl⟩
theorem ckWrite_ok (n : Nat) (l : List UInt8) (hn : l.length = n) (h0 : 0 < n) (h6 : n ≤ 65533) (w : World) :
    Calls Tryd.prog 8 #[.agg (extCk l)] w fun e w' => ∃ m, e = .returned (.tuple #[.string (S m), .bool true]) ∧ Below w.heap.size w w' := by
  obtain ⟨cs, hcs⟩ : ∃ cs, extCk l = cs := ⟨_, rfl⟩
  have HM := Lib.hid (fun w => makeCk_any l (by simp only [maxLen]; omega) cs (by rw [← hcs]; rfl) w)
  have HC := Lib.hid (fun b ra c w hk hr hra => marshalCk_any b ra n c l hn h0 h6 w hk hr hra)
  have HN := Lib.hid hn
  have hi : (Tryd.prog.info? 34).map (·.size) = some cs.size := by rw [← hcs]; exact extInfo
  rw [hcs]
  clear hn h0 h6 hcs
  go_enter Tryd.func8, Tryd.ntmps8
  have hg := heap_alloc_new w (.cells cs 34)
  go_wp2_with (with_reducible refine wpList_load_row rfl 34 (.tmp 1) rfl w.heap.size (by with_unfolding_all rfl) 34 cs (0, 0) _ hg Tryd.underlying34 (by with_unfolding_all rfl) hi ?_)
  clear hi hg
  go_wp2_with fail
  refine (HM.out _).mono ?_
  rintro e w1 ⟨b, ra, c, rfl, hk, hr, hra, hb1⟩
  rw [HN.out] at hk
  have HCC := Lib.hid (HC.out b ra c w1 hk hr hra)
  have HB1 := Lib.hid (below_two (below_alloc w _) hb1)
  clear hk hr hra hb1 HM HC
  go_wp2_with fail
  refine HCC.out.mono ?_
  rintro e w2 ⟨A', n', c', m, rfl, hn', hr2, hb2⟩
  have HT := Lib.hid (text_any A' n' c' _ hn' w2 hr2)
  have HB2 := Lib.hid (below_two HB1.out hb2)
  clear hn' hr2 hb2
  go_wp2_with fail
  refine HT.out.mono ?_
  rintro e w3 ⟨rfl, rfl⟩
  go_wp2_with fail
  go_ret2
  exact ⟨_, rfl, HB2.out⟩
theorem ckWrite_no (n : Nat) (l : List UInt8) (hn : l.length = n) (h7 : n ≤ 70000) (hbad : n = 0 ∨ 65533 < n) (w : World) (ad : Addr) (hg0 : w.cell? ⟨0, 0, none⟩ = some (.iface 135 (.pointer (some ad)))) :
    Calls Tryd.prog 8 #[.agg (extCk l)] w fun e w' => e = .returned (.tuple #[.string (S []), .bool false]) ∧ Below w.heap.size w w' := by
  obtain ⟨cs, hcs⟩ : ∃ cs, extCk l = cs := ⟨_, rfl⟩
  have HM := Lib.hid (fun w => makeCk_any l (by simp only [maxLen]; omega) cs (by rw [← hcs]; rfl) w)
  have HC := Lib.hid (fun b ra c w hk hg => marshalCk_no b ra n c hbad w hk ad hg)
  have HN := Lib.hid hn
  have HG := Lib.hid hg0
  have hi : (Tryd.prog.info? 34).map (·.size) = some cs.size := by rw [← hcs]; exact extInfo
  rw [hcs]
  clear hn h7 hbad hcs hg0
  go_enter Tryd.func8, Tryd.ntmps8
  have hg := heap_alloc_new w (.cells cs 34)
  go_wp2_with (with_reducible refine wpList_load_row rfl 34 (.tmp 1) rfl w.heap.size (by with_unfolding_all rfl) 34 cs (0, 0) _ hg Tryd.underlying34 (by with_unfolding_all rfl) hi ?_)
  clear hi hg
  go_wp2_with fail
  refine (HM.out _).mono ?_
  rintro e w1 ⟨b, ra, c, rfl, hk, hr, hra, hb1⟩
  rw [HN.out] at hk
  have HCC := Lib.hid (HC.out b ra c w1 hk (keep_of_below (below_two (below_alloc w _) hb1) _ _ HG.out))
  have HB1 := Lib.hid (below_two (below_alloc w _) hb1)
  clear hk hr hra hb1 HM HC
  go_wp2_with fail
  refine HCC.out.mono ?_
  rintro e w2 ⟨ad2, rfl, hb2⟩
  have HB2 := Lib.hid (below_two HB1.out hb2)
  clear hb2
  go_wp2_with fail
  refine (text_no _ _ _ _ _ _).mono ?_
  rintro e w3 ⟨rfl, rfl⟩
  go_wp2_with fail
  go_ret2
  exact ⟨rfl, HB2.out⟩
theorem ckr_neg (x : Int) (h : x < 0) (w : World) : Calls Tryd.prog 3 #[.int .i64 x] w fun e w' => e = .returned (.bool true) ∧ Below w.heap.size w w' := by
  have t1 : decide (x < 0) = true := by simpa using h
  go_enter Tryd.func3, Tryd.ntmps3
  go_wp2_with fail
  go_ret
  exact ⟨rfl, Below.refl _ _⟩
theorem ckr_big (n : Nat) (h : (70000 : Int) < n) (w : World) : Calls Tryd.prog 3 #[.int .i64 (n : Int)] w fun e w' => e = .returned (.bool true) ∧ Below w.heap.size w w' := by
  have t2 : decide ((70000 : Int) < n) = true := by simpa using h
  have t2' : 70000 < n := by omega
  go_enter Tryd.func3, Tryd.ntmps3
  go_wp2_with fail
  go_ret
  exact ⟨rfl, Below.refl _ _⟩
theorem ckr_any (n : Nat) (h7 : n ≤ 70000) (w : World) (ad : Addr) (hg : w.cell? ⟨0, 0, none⟩ = some (.iface 135 (.pointer (some ad)))) :
    Calls Tryd.prog 3 #[.int .i64 (n : Int)] w fun e w' => e = .returned (.bool true) ∧ Below w.heap.size w w' := by
  have t2 : decide ((70000 : Int) < n) = false := by simp; omega
  have t2' : ¬ 70000 < n := by omega
  have hz : vs (List.replicate n (0 : UInt8)) = List.replicate n (Value.int .u8 0) := vs_zeros n
  have hlz : (List.replicate n (0 : UInt8)).length = n := by simp
  obtain ⟨l, hl⟩ : ∃ l, List.replicate n (0 : UInt8) = l := ⟨_, rfl⟩
  rw [hl] at hz hlz
  have HZ := Lib.hid hz
  have HLZ := Lib.hid hlz
  have H7 := Lib.hid h7
  have HG := Lib.hid hg
  by_cases hok : 0 < n ∧ n ≤ 65533
  · have HW := Lib.hid (fun w => ckWrite_ok n l hlz hok.1 hok.2 w)
    have q1 : decide ((1 : Int) ≤ n) = true := by simp; omega
    have q2 : decide ((n : Int) ≤ 65533) = true := by simp; omega
    have q1' : 1 ≤ n := hok.1
    have q2' : n ≤ 65533 := hok.2
    unfold extCk at HW
    clear hz hlz hl h7 hok hg
    go_enter Tryd.func3, Tryd.ntmps3
    go_wp2_with fail
    refine upon_make 25 5 (.int .u8 0) 1 Tryd.underlying25 u8info rfl n n rfl rfl (Nat.le_refl _) (by have := H7.out; omega) (by have := H7.out; simp only [maxLen]; omega) ?_
    intro w1 hown hb1 hsz1
    have hr : Rd w1 (some ⟨w.heap.size, 0, none⟩) (vs l) := by rw [HZ.out]; exact hown.rd
    have HR := Lib.hid hr
    have HB1 := Lib.hid hb1
    clear hown hb1 hsz1 hr
    go_wp2_with fail
    refine upon_conv_bs 25 9 5 Tryd.underlying25 Tryd.underlying5 Tryd.underlying9 l _ _ _ HLZ.out HR.out ?_
    go_wp2_with fail
    refine (HW.out _).mono ?_
    rintro e w2 ⟨m, rfl, hb2⟩
    have HB2 := Lib.hid (below_two HB1.out hb2)
    clear hb2
    go_wp2_with fail
    go_ret
    exact ⟨by simp, HB2.out⟩
  · have HW := Lib.hid (fun w hg => ckWrite_no n l hlz h7 (by omega) w ad hg)
    have hq : (decide ((1 : Int) ≤ n) && decide ((n : Int) ≤ 65533)) = false := by
      by_cases h1 : 1 ≤ n
      · have : decide ((n : Int) ≤ 65533) = false := by simp; omega
        simp [this]
      · have : decide ((1 : Int) ≤ n) = false := by simp; omega
        simp [this]
    unfold extCk at HW
    by_cases h1 : 1 ≤ n
    · have q1 : decide ((1 : Int) ≤ n) = true := by simp; omega
      have q2 : decide ((n : Int) ≤ 65533) = false := by simp; omega
      have q2' : ¬ n ≤ 65533 := by omega
      clear hz hlz hl h7 hok hg hq
      go_enter Tryd.func3, Tryd.ntmps3
      go_wp2_with fail
      refine upon_make 25 5 (.int .u8 0) 1 Tryd.underlying25 u8info rfl n n rfl rfl (Nat.le_refl _) (by have := H7.out; omega) (by have := H7.out; simp only [maxLen]; omega) ?_
      intro w1 hown hb1 hsz1
      have hr : Rd w1 (some ⟨w.heap.size, 0, none⟩) (vs l) := by rw [HZ.out]; exact hown.rd
      have HR := Lib.hid hr
      have HB1 := Lib.hid hb1
      clear hown hb1 hsz1 hr
      go_wp2_with fail
      refine upon_conv_bs 25 9 5 Tryd.underlying25 Tryd.underlying5 Tryd.underlying9 l _ _ _ HLZ.out HR.out ?_
      go_wp2_with fail
      refine (HW.out _ (keep_of_below HB1.out _ _ HG.out)).mono ?_
      rintro e w2 ⟨rfl, hb2⟩
      have HB2 := Lib.hid (below_two HB1.out hb2)
      clear hb2
      go_wp2_with fail
      go_ret
      exact ⟨by simp, HB2.out⟩
    · have q1 : decide ((1 : Int) ≤ n) = false := by simp; omega
      have q1' : ¬ 1 ≤ n := h1
      have n0 : n = 0 := by omega
      clear q1 q1' t2 t2' hok hq h1
      subst n0
      clear hz hlz hl h7 hg
      go_enter Tryd.func3, Tryd.ntmps3
      go_wp2_with fail
      refine upon_make 25 5 (.int .u8 0) 1 Tryd.underlying25 u8info rfl 0 0 rfl rfl (Nat.le_refl _) (by omega) (by simp only [maxLen]; omega) ?_
      intro w1 hown hb1 hsz1
      have hr : Rd w1 (some ⟨w.heap.size, 0, none⟩) (vs l) := by rw [HZ.out]; exact hown.rd
      have HR := Lib.hid hr
      have HB1 := Lib.hid hb1
      clear hown hb1 hsz1 hr
      go_wp2_with fail
      refine upon_conv_bs 25 9 5 Tryd.underlying25 Tryd.underlying5 Tryd.underlying9 l _ _ _ HLZ.out HR.out ?_
      go_wp2_with fail
      refine (HW.out _ (keep_of_below HB1.out _ _ HG.out)).mono ?_
      rintro e w2 ⟨rfl, hb2⟩
      have HB2 := Lib.hid (below_two HB1.out hb2)
      clear hb2
      go_wp2_with fail
      go_ret
      exact ⟨by simp, HB2.out⟩
theorem ckr_row (x : Int) (wx : (Lit.int .i64 x).wf = true) (w : World) (ad : Addr) (hg : w.cell? ⟨0, 0, none⟩ = some (.iface 135 (.pointer (some ad)))) :
    Calls Tryd.prog 3 #[.int .i64 x] w fun e w' => e = .returned (.bool true) ∧ Below w.heap.size w w' := by
  by_cases h : x < 0
  · exact ckr_neg x h w
  · obtain ⟨n, rfl⟩ : ∃ n : Nat, x = n := ⟨x.toNat, by omega⟩
    by_cases h7 : (70000 : Int) < n
    · exact ckr_big n h7 w
    · exact ckr_any n (by omega) w ad hg
end Go.Proofs.YtgnkfpfgolhokaaDoor
