/- Walks: the window as the standard has it. -/
import Derived.Test.YtkjnmmephhlkgaaRepN
import Derived.Test.YtkjnmmephhlkgaaElems
namespace Go.Proofs.Ytkjnmmephhlkgaa
open Go.RowKit Go.Cv
set_option maxRecDepth 100000
set_option linter.unusedVariables false
def spRow (W M : Nat) (s : Nat × List Nat) (A : Option Addr) (k c : Nat) : Array Value := #[.int .i64 (W : Nat), .int .u64 (M : Nat), .bool (!s.2.isEmpty), .int .u64 (s.1 : Nat), .slice A k c]
theorem fr_none (W M n : Nat) (l : Nat) (h : ¬ M < n) : fr W M (l, []) n = true := by unfold fr; rw [if_neg h]; simp
theorem fr_new {W M n : Nat} {s : Nat × List Nat} (h : ¬ M < n) (h2 : s.1 < n) : fr W M s n = true := by unfold fr; rw [if_neg h]; simp [h2]
theorem fr_old {W M n : Nat} {s : Nat × List Nat} (h : ¬ M < n) (h2 : n ≤ s.1) (h3 : s.2 ≠ []) : fr W M s n = (if W ≤ s.1 - n then false else !s.2.contains n) := by
  unfold fr
  rw [if_neg h]
  have d : decide (s.1 < n) = false := by simp; omega
  rw [d]
  cases he : s.2.isEmpty with
  | true => exact absurd (by simpa using he) h3
  | false => simp
theorem rmeas {j n : Nat} (h : j < n) : n - (intOf (Value.int .i64 ((j : Int) + 1))).toNat < n - (intOf (Value.int .i64 (j : Int))).toNat := by simp [intOf]; omega
def NoneOf (ts : List Nat) (n j : Nat) : Prop := ∀ i, i < j → ts.getD i 0 ≠ n
theorem noneOf_snoc {ts : List Nat} {n j : Nat} (h : NoneOf ts n j) (h2 : ts.getD j 0 ≠ n) : NoneOf ts n (j + 1) := fun i hi => by
  by_cases hij : i < j
  · exact h i hij
  · obtain rfl : i = j := by omega
    exact h2
theorem contains_no {ts : List Nat} {n : Nat} (h : NoneOf ts n ts.length) : ts.contains n = false := by
  cases hc : ts.contains n with
  | false => rfl
  | true =>
    have hm : n ∈ ts := by simpa using hc
    obtain ⟨i, hi, he⟩ := List.getElem_of_mem hm
    exact absurd (by rw [List.getD_eq_getElem?_getD, List.getElem?_eq_getElem hi]; exact he) (h i hi)
theorem contains_yes {ts : List Nat} {n j : Nat} (hj : j < ts.length) (h : ts.getD j 0 = n) : ts.contains n = true := by
  have : n ∈ ts := by
    rw [List.getD_eq_getElem?_getD, List.getElem?_eq_getElem hj] at h
    simp at h
    rw [← h]; exact List.getElem_mem hj
  simpa using this
set_option maxHeartbeats 1000000 in
theorem fresh_any (W M n k c : Nat) (A : Option Addr) (s : Nat × List Nat) (hk : s.2.length = k) (hk3 : k ≤ 300) (hW : W ≤ 1000) (hM : M < 281474976710656) (hl : s.1 ≤ M) (hn : n < 18446744073709551616) (w : World) (hr : Rd w A (wv s.2)) :
    Calls Try.prog 10 #[.agg (spRow W M s A k c), .int .u64 (n : Nat)] w fun e w' => e = .returned (.bool (fr W M s n)) ∧ Below w.heap.size w w' := by
  obtain ⟨l, ts⟩ := s
  simp only at hk hl hr
  by_cases h1 : M < n
  · have t1 : decide ((M : Int) < n) = true := by simp; omega
    have e : fr W M (l, ts) n = false := by unfold fr; rw [if_pos h1]
    rw [e]
    clear hr
    unfold spRow
    go_enter Try.func10, Try.ntmps10
    go_wp2_with fail
    go_ret
    exact ⟨rfl, below_alloc _ _⟩
  have t1 : decide ((M : Int) < n) = false := by simp; omega
  have t1' : ¬ M < n := h1
  cases ts with
  | nil =>
    rw [fr_none W M n l h1]
    clear hr
    unfold spRow
    go_enter Try.func10, Try.ntmps10
    go_wp2_with fail
    go_ret
    exact ⟨rfl, below_alloc _ _⟩
  | cons t0 ts =>
  have hne : (t0 :: ts).isEmpty = false := rfl
  obtain ⟨us, hus⟩ : ∃ us, t0 :: ts = us := ⟨_, rfl⟩
  rw [hus] at hk hr hne ⊢
  by_cases h2 : l < n
  · have t2 : decide ((l : Int) < n) = true := by simp; omega
    rw [fr_new h1 h2]
    clear hr hus
    unfold spRow
    simp only [hne]
    go_enter Try.func10, Try.ntmps10
    go_wp2_with fail
    go_ret
    exact ⟨rfl, below_alloc _ _⟩
  have t2 : decide ((l : Int) < n) = false := by simp; omega
  have t2' : ¬ l < n := h2
  have hf := fr_old (W := W) (s := (l, us)) h1 (by simp only; omega) (by simp only; intro e; rw [e] at hne; cases hne)
  obtain ⟨i, hi⟩ : ∃ i, l - n = i := ⟨_, rfl⟩
  have e5 : (l : Int) - n = (i : Int) := by omega
  have e4 : IntKind.u64.wrap (i : Int) = (i : Int) := by rw [IntKind.wrap_u64]; omega
  have e1 : IntKind.u64.wrap ((l : Int) - n) = (i : Int) := by rw [e5]; exact e4
  have ew : IntKind.u64.wrap (W : Int) = (W : Int) := by rw [IntKind.wrap_u64]; omega
  simp only at hf
  rw [hi] at hf
  by_cases h3 : W ≤ i
  · have t3 : decide ((W : Int) ≤ i) = true := by simp; omega
    have t3' : W ≤ i := h3
    rw [hf, if_pos h3]
    clear hr hus hf hi
    unfold spRow
    simp only [hne]
    go_enter Try.func10, Try.ntmps10
    go_wp2_with fail
    go_ret
    exact ⟨rfl, below_alloc _ _⟩
  have t3 : decide ((W : Int) ≤ i) = false := by simp; omega
  have t3' : ¬ W ≤ i := h3
  rw [hf, if_neg h3]
  obtain ⟨rb, hrb⟩ : ∃ r, (!us.contains n) = r := ⟨_, rfl⟩
  rw [hrb]
  have HRB := Lib.hid hrb
  clear hW hM hl hn h1 h2 h3 hrb
  have k0 : 0 < k := by rw [← hk, ← hus]; simp
  obtain ⟨b, o, rfl⟩ : ∃ b o, A = some ⟨b, o, none⟩ := by
    rcases hr with hr | ⟨b, o, hA, _⟩
    · have : k = 0 := by rw [← hk, ← wv_length, hr]; rfl
      omega
    · exact ⟨b, o, hA⟩
  have HR := Lib.hid (hr.keep (below_alloc w (.cells (spRow W M (l, us) (some ⟨b, o, none⟩) k c) 38)))
  have HK := Lib.hid hk
  have HK3 := Lib.hid hk3
  clear hr hus hf hi hk hk3
  unfold spRow at HR ⊢
  simp only [hne] at HR ⊢
  go_enter Try.func10, Try.ntmps10
  go_wp2_with fail
  have HX := Lib.hid (Blk.new w 38 #[.int .i64 (W : Nat), .int .u64 (M : Nat), .bool true, .int .u64 (l : Nat), .slice (some ⟨b, o, none⟩) k c])
  have HB := Lib.hid (below_alloc w (.cells #[.int .i64 (W : Nat), .int .u64 (M : Nat), .bool true, .int .u64 (l : Nat), .slice (some ⟨b, o, none⟩) k c] 38))
  simp only [Bool.not_false] at HR ⊢
  generalize w.alloc (.cells #[.int .i64 (W : Nat), .int .u64 (M : Nat), .bool true, .int .u64 (l : Nat), .slice (some ⟨b, o, none⟩) k c] 38) = w1 at *
  have x4 := (HX.out.cell 4).trans (rfl : _ = some (Value.slice (some ⟨b, o, none⟩) k c))
  go_loop [5] (fun v => ∃ j : Nat, j ≤ k ∧ v = .int .i64 j ∧ Hid (NoneOf us n j)) (fun v => k - (intOf v).toNat)
  case atStart => exact ⟨0, Nat.zero_le _, rfl, Lib.hid (fun i hi => by omega)⟩
  case round =>
    obtain ⟨j, hj, rfl, HN⟩ := hrel
    by_cases hlt : j < k
    · have c0 := wv_rd HR.out j (by rw [HK.out]; exact hlt)
      obtain ⟨z, hz⟩ : ∃ z, us.getD j 0 = z := ⟨_, rfl⟩
      rw [hz] at c0
      have HZ := Lib.hid hz
      have jw : wrap64 ((j : Int) + 1) = (j : Int) + 1 := by have := HK3.out; unfold wrap64; omega
      clear hz
      by_cases he : z = n
      · have te : ((z : Int) == n) = true := by rw [he]; simp
        have HE := Lib.hid he
        clear he
        go_wp2_with fail
        go_ret
        have := contains_yes (by rw [HK.out]; exact hlt) (HZ.out.trans HE.out)
        exact ⟨by rw [← HRB.out, this]; rfl, HB.out⟩
      · have te : ((z : Int) == n) = false := by simp; omega
        have HE := Lib.hid he
        clear he
        go_wp2_with fail
        go_round
        case rel => exact ⟨j + 1, hlt, by rw [jw]; go_num, Lib.hid (noneOf_snoc HN.out (by rw [HZ.out]; exact HE.out))⟩
        case measure => rw [jw]; exact rmeas hlt
    · obtain rfl : j = k := by omega
      have hc := contains_no (by rw [HK.out]; exact HN.out)
      have HC := Lib.hid hc
      clear hc
      go_wp2_with fail
      go_ret
      exact ⟨by rw [← HRB.out, HC.out]; rfl, HB.out⟩
theorem wv_snoc (l : List Nat) (n : Nat) : wv l ++ [Value.int .u64 (n : Nat)] = wv (l ++ [n]) := by simp [wv]
theorem hi_low {a b : Nat} {A : Option Addr} (h : Hi b A) (hab : a ≤ b) : Hi a A := by
  rcases h with rfl | ⟨x, rfl, hx⟩
  · exact .inl rfl
  · exact .inr ⟨x, rfl, Nat.le_trans hab hx⟩
theorem spInfo : (Try.prog.info? 38).map (·.size) = some 5 := by kernel_rfl
theorem wv_one (ws : List Nat) : ∀ u ∈ wv ws, u.oneCell' = true := by
  intro u hu
  simp only [wv, List.mem_map] at hu
  obtain ⟨b, _, rfl⟩ := hu
  rfl
set_option maxHeartbeats 1000000 in
theorem take2_any (W M n k c : Nat) (A : Option Addr) (s : Nat × List Nat) (hk : s.2.length = k) (hk3 : k ≤ 300) (w : World) (hr : Rd w A (wv s.2)) :
    Calls Try.prog 11 #[.agg (spRow W M s A k c), .int .u64 (n : Nat)] w fun e w' => ∃ A' c', e = .returned (.agg (spRow W M (tk s n) A' (k + 1) c')) ∧ Rd w' A' (wv (tk s n).2) ∧ Below w.heap.size w w' ∧ Hi w.heap.size A' ∧ Lo A' w' := by
  obtain ⟨l, ts⟩ := s
  simp only at hk hr
  unfold spRow
  obtain ⟨bg, hbg⟩ : ∃ b, ts.isEmpty = b := ⟨_, rfl⟩
  have hrow : tk (l, ts) n = (if bg || decide (l < n) then n else l, ts ++ [n]) := by unfold tk; rw [hbg]
  have hemp : (ts ++ [n]).isEmpty = false := by simp
  rw [hrow]
  simp only [hbg, hemp]
  have HR := Lib.hid hr
  have HK := Lib.hid hk
  have HK3 := Lib.hid hk3
  clear hr hk hk3 hrow hbg hemp
  have h00 : ∀ q : Nat, Blk ((w.alloc (.cells #[.int .i64 (W : Nat), .int .u64 (M : Nat), .bool true, .int .u64 (q : Nat), .slice A k c] 38)).alloc (.cells #[.int .i64 0, .int .u64 0, .bool false, .int .u64 0, .slice none 0 0] 38)) w.heap.size 38 #[.int .i64 (W : Nat), .int .u64 (M : Nat), .bool true, .int .u64 (q : Nat), .slice A k c] ∧ Blk ((w.alloc (.cells #[.int .i64 (W : Nat), .int .u64 (M : Nat), .bool true, .int .u64 (q : Nat), .slice A k c] 38)).alloc (.cells #[.int .i64 0, .int .u64 0, .bool false, .int .u64 0, .slice none 0 0] 38)) (w.heap.size + 1) 38 #[.int .i64 0, .int .u64 0, .bool false, .int .u64 0, .slice none 0 0] ∧ Below w.heap.size w ((w.alloc (.cells #[.int .i64 (W : Nat), .int .u64 (M : Nat), .bool true, .int .u64 (q : Nat), .slice A k c] 38)).alloc (.cells #[.int .i64 0, .int .u64 0, .bool false, .int .u64 0, .slice none 0 0] 38)) := fun q => ⟨(Blk.new w _ _).alloc _, by have := Blk.new (w.alloc (.cells #[.int .i64 (W : Nat), .int .u64 (M : Nat), .bool true, .int .u64 (q : Nat), .slice A k c] 38)) 38 #[.int .i64 0, .int .u64 0, .bool false, .int .u64 0, .slice none 0 0]; rw [World.size_alloc] at this; exact this, below_two (below_alloc _ _) (below_alloc _ _)⟩
  have H00 := Lib.hid h00
  clear h00
  cases bg with
  | true =>
    simp only [Bool.true_or, if_true]
    go_enter Try.func11, Try.ntmps11
    go_wp2_with (at_builtin; refine Held.on ?_)
    obtain ⟨hX, hY, hB⟩ := H00.out n
    have HX := Lib.hid hX
    have HY := Lib.hid hY
    have HB := Lib.hid hB
    clear hX hY hB
    generalize hW : ((w.alloc (.cells #[.int .i64 (W : Nat), .int .u64 (M : Nat), .bool true, .int .u64 (n : Nat), .slice A k c] 38)).alloc (.cells #[.int .i64 0, .int .u64 0, .bool false, .int .u64 0, .slice none 0 0] 38)) = w2 at *
    clear hW
    have hx2 := HX.out.lt
    have hy2 := HY.out.lt
    refine held_append rfl (.const (.slice none 0 0)) (.tmp 18) 23 23 rfl w2.heap.size 22 _ 1 8 Try.underlying23 (.inl Try.underlying23) u64info rfl (by omega) (xs := []) (ys := wv ts) rfl rfl (Own.nil _ _ _) ⟨by rw [wv_length, HK.out]; omega, wv_one _, .inl ⟨A, c, rfl, HR.out.keep HB.out⟩⟩ (by have := HK3.out; omega) (by have := HK3.out; simp only [maxLen]; omega) (Nat.le_refl _) ?_
    intro A1 c1 w3 hO3 hg3 hor3
    have hb3 : Below w2.heap.size w2 w3 := (Tch.grown hg3).toBelow (Nat.le_refl _)
    have HO3 : Hid (Own w3 w2.heap.size 1 A1 k c1 (wv ts)) := Lib.hid (by simpa using hO3)
    have HA1 : Hid (Hi w2.heap.size A1) := Lib.hid (by rcases hor3 with ⟨rfl, _⟩ | rfl; exact .inl rfl; exact .inr ⟨_, rfl, Nat.le_refl _⟩)
    have HX3 := Lib.hid (HX.out.keep hb3)
    have HY3 := Lib.hid (HY.out.keep hb3)
    have HB3 := Lib.hid (below_two HB.out hb3)
    have L3 := hb3.size
    clear hO3 hg3 hor3 hb3
    go_wp2_with (at_builtin; refine Held.on ?_)
    refine held_append rfl (.tmp 19) (.tmp 21) 23 23 rfl w2.heap.size 22 _ 1 8 Try.underlying23 (.inl Try.underlying23) u64info rfl (by omega) (xs := wv ts) (ys := [.int .u64 (n : Nat)]) rfl rfl (HO3.out.keep (below_alloc _ _)) ⟨rfl, by intro v h; simp at h; subst h; rfl, .inl ⟨_, _, rfl, rd_single _ _ _⟩⟩ (by have := HK3.out; omega) (by have := HK3.out; simp only [maxLen]; omega) (by rw [World.size_alloc]; omega) ?_
    intro A2 c2 w4 hO4 hg4 hor4
    have t4 : Tch (A1.map (·.block)).toList w3 w4 := ((Tch.alloc w3 _).more (by simp)).trans (Tch.grown hg4)
    have hA2 : Hi w2.heap.size A2 := HA1.out.new hor4 (by rw [World.size_alloc]; omega)
    have hX4 := HX3.out.tch t4 (HA1.out.notin (by omega))
    have hY4 := HY3.out.tch t4 (HA1.out.notin hy2)
    have TS := Tch.set w4 w.heap.size 4 (.slice A2 (k + 1) c2)
    have HX5 := Lib.hid (show Blk (w4.setCell ⟨w.heap.size, 4, none⟩ (.slice A2 (k + 1) c2)) w.heap.size 38 #[.int .i64 (W : Nat), .int .u64 (M : Nat), .bool true, .int .u64 (n : Nat), .slice A2 (k + 1) c2] from by simpa using hX4.set_ 4 (.slice A2 (k + 1) c2))
    have HY5 := Lib.hid (hY4.tch TS (by simp))
    have HR5 := Lib.hid ((hO4.tch TS (hA2.away (by simp; omega))).rd)
    have HB5 : Hid (Below w.heap.size w (w4.setCell ⟨w.heap.size, 4, none⟩ (.slice A2 (k + 1) c2))) := Lib.hid ((((Tch.below HB3.out []).then t4 (fun q hq => .inr (Nat.le_trans HB.out.size (HA1.out.inn q hq)))).toBelow (Nat.le_refl _)).setCell (p := ⟨w.heap.size, 4, none⟩) (Nat.le_refl _) _)
    have HA2 := Lib.hid hA2
    have HLO := Lib.hid ((hO4.lo (Nat.succ_pos k)).mono TS.size)
    have x4 := (hX4.cell 4).trans (rfl : _ = some (Value.slice A k c))
    have f4 := hX4.frozen 4
    clear hO4 hg4 hor4 t4 hX4 hY4 TS
    go_wp2_with (with_reducible refine Held.load 38 ?_)
    clear x4 f4
    generalize hW : w4.setCell ⟨w.heap.size, 4, none⟩ (.slice A2 (k + 1) c2) = w5 at *
    clear hW
    refine held_load_row (cs := #[.int .i64 (W : Nat), .int .u64 (M : Nat), .bool true, .int .u64 (n : Nat), .slice A2 (k + 1) c2]) HX5.out Try.underlying38 spInfo rfl ?_
    go_wp2_with (with_reducible refine Held.store 38 ?_)
    refine held_store_row (cells := #[.int .i64 (W : Nat), .int .u64 (M : Nat), .bool true, .int .u64 (n : Nat), .slice A2 (k + 1) c2]) HY5.out spInfo rfl rfl rfl (by simp [Value.oneCell']) fun w6 hk6 hg6 _ => ?_
    go_wp2_with fail
    have hr6 : Rd w6 A2 (wv (ts ++ [n])) := by
      have h5 := HR5.out
      rw [wv_snoc] at h5
      rcases HA2.out with rfl | ⟨a2, rfl, ha2⟩
      · rcases h5 with h5 | ⟨_, _, h5, _⟩
        · exact .inl h5
        · simp at h5
      · exact h5.tch (Tch.grown hg6) (by simp; omega)
    have hlo6 : Lo A2 w6 := Lo.mono HLO.out hg6.size
    refine bodyPost_cell rfl rfl rfl hk6 Try.underlying38 spInfo ⟨A2, c2, rfl, ?_, HB5.out.grown hg6 HB5.out.size (fun q hq => by simp at hq; omega), hi_low HA2.out HB.out.size, hlo6⟩
    exact hr6
  | false =>
    by_cases hln : l < n
    · have t2 : decide ((l : Int) < n) = true := by simp; omega
      have t2' : decide (l < n) = true := by simp; omega
      simp only [t2', Bool.false_or, if_true]
      clear t2'
      go_enter Try.func11, Try.ntmps11
      go_wp2_with (at_builtin; refine Held.on ?_)
      obtain ⟨hX, hY, hB⟩ := H00.out n
      have HX := Lib.hid hX
      have HY := Lib.hid hY
      have HB := Lib.hid hB
      clear hX hY hB
      generalize hW : ((w.alloc (.cells #[.int .i64 (W : Nat), .int .u64 (M : Nat), .bool true, .int .u64 (n : Nat), .slice A k c] 38)).alloc (.cells #[.int .i64 0, .int .u64 0, .bool false, .int .u64 0, .slice none 0 0] 38)) = w2 at *
      clear hW
      have hx2 := HX.out.lt
      have hy2 := HY.out.lt
      refine held_append rfl (.const (.slice none 0 0)) (.tmp 18) 23 23 rfl w2.heap.size 22 _ 1 8 Try.underlying23 (.inl Try.underlying23) u64info rfl (by omega) (xs := []) (ys := wv ts) rfl rfl (Own.nil _ _ _) ⟨by rw [wv_length, HK.out]; omega, wv_one _, .inl ⟨A, c, rfl, HR.out.keep HB.out⟩⟩ (by have := HK3.out; omega) (by have := HK3.out; simp only [maxLen]; omega) (Nat.le_refl _) ?_
      intro A1 c1 w3 hO3 hg3 hor3
      have hb3 : Below w2.heap.size w2 w3 := (Tch.grown hg3).toBelow (Nat.le_refl _)
      have HO3 : Hid (Own w3 w2.heap.size 1 A1 k c1 (wv ts)) := Lib.hid (by simpa using hO3)
      have HA1 : Hid (Hi w2.heap.size A1) := Lib.hid (by rcases hor3 with ⟨rfl, _⟩ | rfl; exact .inl rfl; exact .inr ⟨_, rfl, Nat.le_refl _⟩)
      have HX3 := Lib.hid (HX.out.keep hb3)
      have HY3 := Lib.hid (HY.out.keep hb3)
      have HB3 := Lib.hid (below_two HB.out hb3)
      have L3 := hb3.size
      clear hO3 hg3 hor3 hb3
      go_wp2_with (at_builtin; refine Held.on ?_)
      refine held_append rfl (.tmp 19) (.tmp 21) 23 23 rfl w2.heap.size 22 _ 1 8 Try.underlying23 (.inl Try.underlying23) u64info rfl (by omega) (xs := wv ts) (ys := [.int .u64 (n : Nat)]) rfl rfl (HO3.out.keep (below_alloc _ _)) ⟨rfl, by intro v h; simp at h; subst h; rfl, .inl ⟨_, _, rfl, rd_single _ _ _⟩⟩ (by have := HK3.out; omega) (by have := HK3.out; simp only [maxLen]; omega) (by rw [World.size_alloc]; omega) ?_
      intro A2 c2 w4 hO4 hg4 hor4
      have t4 : Tch (A1.map (·.block)).toList w3 w4 := ((Tch.alloc w3 _).more (by simp)).trans (Tch.grown hg4)
      have hA2 : Hi w2.heap.size A2 := HA1.out.new hor4 (by rw [World.size_alloc]; omega)
      have hX4 := HX3.out.tch t4 (HA1.out.notin (by omega))
      have hY4 := HY3.out.tch t4 (HA1.out.notin hy2)
      have TS := Tch.set w4 w.heap.size 4 (.slice A2 (k + 1) c2)
      have HX5 := Lib.hid (show Blk (w4.setCell ⟨w.heap.size, 4, none⟩ (.slice A2 (k + 1) c2)) w.heap.size 38 #[.int .i64 (W : Nat), .int .u64 (M : Nat), .bool true, .int .u64 (n : Nat), .slice A2 (k + 1) c2] from by simpa using hX4.set_ 4 (.slice A2 (k + 1) c2))
      have HY5 := Lib.hid (hY4.tch TS (by simp))
      have HR5 := Lib.hid ((hO4.tch TS (hA2.away (by simp; omega))).rd)
      have HB5 : Hid (Below w.heap.size w (w4.setCell ⟨w.heap.size, 4, none⟩ (.slice A2 (k + 1) c2))) := Lib.hid ((((Tch.below HB3.out []).then t4 (fun q hq => .inr (Nat.le_trans HB.out.size (HA1.out.inn q hq)))).toBelow (Nat.le_refl _)).setCell (p := ⟨w.heap.size, 4, none⟩) (Nat.le_refl _) _)
      have HA2 := Lib.hid hA2
      have HLO := Lib.hid ((hO4.lo (Nat.succ_pos k)).mono TS.size)
      have x4 := (hX4.cell 4).trans (rfl : _ = some (Value.slice A k c))
      have f4 := hX4.frozen 4
      clear hO4 hg4 hor4 t4 hX4 hY4 TS
      go_wp2_with (with_reducible refine Held.load 38 ?_)
      clear x4 f4
      generalize hW : w4.setCell ⟨w.heap.size, 4, none⟩ (.slice A2 (k + 1) c2) = w5 at *
      clear hW
      refine held_load_row (cs := #[.int .i64 (W : Nat), .int .u64 (M : Nat), .bool true, .int .u64 (n : Nat), .slice A2 (k + 1) c2]) HX5.out Try.underlying38 spInfo rfl ?_
      go_wp2_with (with_reducible refine Held.store 38 ?_)
      refine held_store_row (cells := #[.int .i64 (W : Nat), .int .u64 (M : Nat), .bool true, .int .u64 (n : Nat), .slice A2 (k + 1) c2]) HY5.out spInfo rfl rfl rfl (by simp [Value.oneCell']) fun w6 hk6 hg6 _ => ?_
      go_wp2_with fail
      have hr6 : Rd w6 A2 (wv (ts ++ [n])) := by
        have h5 := HR5.out
        rw [wv_snoc] at h5
        rcases HA2.out with rfl | ⟨a2, rfl, ha2⟩
        · rcases h5 with h5 | ⟨_, _, h5, _⟩
          · exact .inl h5
          · simp at h5
        · exact h5.tch (Tch.grown hg6) (by simp; omega)
      have hlo6 : Lo A2 w6 := Lo.mono HLO.out hg6.size
      refine bodyPost_cell rfl rfl rfl hk6 Try.underlying38 spInfo ⟨A2, c2, rfl, ?_, HB5.out.grown hg6 HB5.out.size (fun q hq => by simp at hq; omega), hi_low HA2.out HB.out.size, hlo6⟩
      exact hr6
    · have t2 : decide ((l : Int) < n) = false := by simp; omega
      have t2' : decide (l < n) = false := by simp; omega
      simp only [t2', Bool.false_or, Bool.false_eq_true, if_false]
      clear t2'
      go_enter Try.func11, Try.ntmps11
      go_wp2_with (at_builtin; refine Held.on ?_)
      obtain ⟨hX, hY, hB⟩ := H00.out l
      have HX := Lib.hid hX
      have HY := Lib.hid hY
      have HB := Lib.hid hB
      clear hX hY hB
      generalize hW : ((w.alloc (.cells #[.int .i64 (W : Nat), .int .u64 (M : Nat), .bool true, .int .u64 (l : Nat), .slice A k c] 38)).alloc (.cells #[.int .i64 0, .int .u64 0, .bool false, .int .u64 0, .slice none 0 0] 38)) = w2 at *
      clear hW
      have hx2 := HX.out.lt
      have hy2 := HY.out.lt
      refine held_append rfl (.const (.slice none 0 0)) (.tmp 18) 23 23 rfl w2.heap.size 22 _ 1 8 Try.underlying23 (.inl Try.underlying23) u64info rfl (by omega) (xs := []) (ys := wv ts) rfl rfl (Own.nil _ _ _) ⟨by rw [wv_length, HK.out]; omega, wv_one _, .inl ⟨A, c, rfl, HR.out.keep HB.out⟩⟩ (by have := HK3.out; omega) (by have := HK3.out; simp only [maxLen]; omega) (Nat.le_refl _) ?_
      intro A1 c1 w3 hO3 hg3 hor3
      have hb3 : Below w2.heap.size w2 w3 := (Tch.grown hg3).toBelow (Nat.le_refl _)
      have HO3 : Hid (Own w3 w2.heap.size 1 A1 k c1 (wv ts)) := Lib.hid (by simpa using hO3)
      have HA1 : Hid (Hi w2.heap.size A1) := Lib.hid (by rcases hor3 with ⟨rfl, _⟩ | rfl; exact .inl rfl; exact .inr ⟨_, rfl, Nat.le_refl _⟩)
      have HX3 := Lib.hid (HX.out.keep hb3)
      have HY3 := Lib.hid (HY.out.keep hb3)
      have HB3 := Lib.hid (below_two HB.out hb3)
      have L3 := hb3.size
      clear hO3 hg3 hor3 hb3
      go_wp2_with (at_builtin; refine Held.on ?_)
      refine held_append rfl (.tmp 19) (.tmp 21) 23 23 rfl w2.heap.size 22 _ 1 8 Try.underlying23 (.inl Try.underlying23) u64info rfl (by omega) (xs := wv ts) (ys := [.int .u64 (n : Nat)]) rfl rfl (HO3.out.keep (below_alloc _ _)) ⟨rfl, by intro v h; simp at h; subst h; rfl, .inl ⟨_, _, rfl, rd_single _ _ _⟩⟩ (by have := HK3.out; omega) (by have := HK3.out; simp only [maxLen]; omega) (by rw [World.size_alloc]; omega) ?_
      intro A2 c2 w4 hO4 hg4 hor4
      have t4 : Tch (A1.map (·.block)).toList w3 w4 := ((Tch.alloc w3 _).more (by simp)).trans (Tch.grown hg4)
      have hA2 : Hi w2.heap.size A2 := HA1.out.new hor4 (by rw [World.size_alloc]; omega)
      have hX4 := HX3.out.tch t4 (HA1.out.notin (by omega))
      have hY4 := HY3.out.tch t4 (HA1.out.notin hy2)
      have TS := Tch.set w4 w.heap.size 4 (.slice A2 (k + 1) c2)
      have HX5 := Lib.hid (show Blk (w4.setCell ⟨w.heap.size, 4, none⟩ (.slice A2 (k + 1) c2)) w.heap.size 38 #[.int .i64 (W : Nat), .int .u64 (M : Nat), .bool true, .int .u64 (l : Nat), .slice A2 (k + 1) c2] from by simpa using hX4.set_ 4 (.slice A2 (k + 1) c2))
      have HY5 := Lib.hid (hY4.tch TS (by simp))
      have HR5 := Lib.hid ((hO4.tch TS (hA2.away (by simp; omega))).rd)
      have HB5 : Hid (Below w.heap.size w (w4.setCell ⟨w.heap.size, 4, none⟩ (.slice A2 (k + 1) c2))) := Lib.hid ((((Tch.below HB3.out []).then t4 (fun q hq => .inr (Nat.le_trans HB.out.size (HA1.out.inn q hq)))).toBelow (Nat.le_refl _)).setCell (p := ⟨w.heap.size, 4, none⟩) (Nat.le_refl _) _)
      have HA2 := Lib.hid hA2
      have HLO := Lib.hid ((hO4.lo (Nat.succ_pos k)).mono TS.size)
      have x4 := (hX4.cell 4).trans (rfl : _ = some (Value.slice A k c))
      have f4 := hX4.frozen 4
      clear hO4 hg4 hor4 t4 hX4 hY4 TS
      go_wp2_with (with_reducible refine Held.load 38 ?_)
      clear x4 f4
      generalize hW : w4.setCell ⟨w.heap.size, 4, none⟩ (.slice A2 (k + 1) c2) = w5 at *
      clear hW
      refine held_load_row (cs := #[.int .i64 (W : Nat), .int .u64 (M : Nat), .bool true, .int .u64 (l : Nat), .slice A2 (k + 1) c2]) HX5.out Try.underlying38 spInfo rfl ?_
      go_wp2_with (with_reducible refine Held.store 38 ?_)
      refine held_store_row (cells := #[.int .i64 (W : Nat), .int .u64 (M : Nat), .bool true, .int .u64 (l : Nat), .slice A2 (k + 1) c2]) HY5.out spInfo rfl rfl rfl (by simp [Value.oneCell']) fun w6 hk6 hg6 _ => ?_
      go_wp2_with fail
      have hr6 : Rd w6 A2 (wv (ts ++ [n])) := by
        have h5 := HR5.out
        rw [wv_snoc] at h5
        rcases HA2.out with rfl | ⟨a2, rfl, ha2⟩
        · rcases h5 with h5 | ⟨_, _, h5, _⟩
          · exact .inl h5
          · simp at h5
        · exact h5.tch (Tch.grown hg6) (by simp; omega)
      have hlo6 : Lo A2 w6 := Lo.mono HLO.out hg6.size
      refine bodyPost_cell rfl rfl rfl hk6 Try.underlying38 spInfo ⟨A2, c2, rfl, ?_, HB5.out.grown hg6 HB5.out.size (fun q hq => by simp at hq; omega), hi_low HA2.out HB.out.size, hlo6⟩
      exact hr6
end Go.Proofs.Ytkjnmmephhlkgaa
