/- Walks: pieces of a message: slices.Replace by one piece. -/
import Derived.Test.YtadblfnggmaadaaDoorRgE
namespace Go.Proofs.YtadblfnggmaadaaDoor
open Go.RowKit Go.Cv
set_option maxRecDepth 100000
set_option linter.unusedVariables false
def RepPost (E : Option Addr) (i j : Nat) (R : List Rg) (f : Rg) (w : World) (e : Ending) (w' : World) : Prop :=
  ∃ E' n' c', e = .returned (.slice E' n' c') ∧ (R.take i ++ ([f] ++ R.drop j)).length = n' ∧ Own w' 0 2 E' n' c' (rgs (R.take i ++ ([f] ++ R.drop j))) ∧ Moved E E' w w' ∧ Tch (E.map (·.block)).toList w w'
set_option maxHeartbeats 1000000 in
theorem rep_ins (E : Option Addr) (n c i v : Nat) (R : List Rg) (f : Rg) (hn : R.length = n) (hn0 : n ≤ 100000) (hi : i ≤ n) (w : World) (hE : Hi 0 E) (hva : E.map (·.block) ≠ some v) (hO : Own w 0 2 E n c (rgs R)) (hv : Blk w v 94 #[.int .u32 (f.off : Nat), .slice f.A f.l.length f.c]) :
    Calls Tryd.prog 39 #[.slice E n c, .int .i64 (i : Int), .int .i64 (i : Int), .slice (some ⟨v, 0, none⟩) 1 1] w (RepPost E i i R f w) := by
  have HI := Lib.hid (ins_any E n c i v R f hn hn0 hi w hE hva hO hv)
  have HN := Lib.hid (And.intro hn hi)
  have hnc := hO.2.1
  have h1 : (i : Int) ≤ n := by omega
  have h2 : (i : Int) ≤ c := by omega
  have hcn : c = i ∨ ¬ c = i := by omega
  clear hO hv hva hE hn0 hnc hn
  rcases hcn with hcn | hcn
  case' inl => (have hcn' := hcn.symm; clear hcn; subst hcn')
  all_goals
    go_enter Tryd.func39, Tryd.ntmps39
    go_wp2_with fail
    refine HI.out.mono ?_
    rintro e w1 ⟨E', c', rfl, hO1, hM1, hT1⟩
    have HF := Lib.hid (And.intro hO1 (And.intro hM1 hT1))
    clear hO1 hM1 hT1 HI
    go_wp2_with fail
    first | go_ret2 | go_ret
    exact ⟨E', n + 1, c', rfl, by rw [List.length_append, List.length_append, List.length_take, List.length_drop]; have := HN.out; simp; omega, HF.out⟩
theorem rep_list (P Q F zs : List Value) (k : Nat) (hP : P.length = k) (hF : F.length = 2) : (P ++ (F ++ zs)).take (k + 2) = P ++ F := by
  rw [← List.append_assoc, List.take_left' (by rw [List.length_append, hP, hF])]
set_option maxHeartbeats 1000000 in
theorem rep_end (a n c i v : Nat) (R : List Rg) (f : Rg) (hn : R.length = n) (hn0 : n ≤ 100000) (hi : i < n) (w : World) (hO : Own w 0 2 (some ⟨a, 0, none⟩) n c (rgs R)) (hv : Rd w (some ⟨v, 0, none⟩) (rgv f)) :
    Calls Tryd.prog 39 #[.slice (some ⟨a, 0, none⟩) n c, .int .i64 (i : Int), .int .i64 (n : Int), .slice (some ⟨v, 0, none⟩) 1 1] w (RepPost (some ⟨a, 0, none⟩) i n R f w) := by
  have HO := Lib.hid hO
  have HV := Lib.hid hv
  have hnc := hO.2.1
  have HN := Lib.hid (And.intro hn (And.intro hn0 (And.intro hi hnc)))
  have h1 : (i : Int) ≤ n := by omega
  have h2 : (n : Int) ≤ c := by omega
  have h3 : ¬ c = i := by omega
  have h4 : ¬ i = n := by omega
  have h5 : (i : Int) ≤ c := by omega
  obtain ⟨i1, hi1⟩ : ∃ i1, i + 1 = i1 := ⟨_, rfl⟩
  have HI := Lib.hid hi1
  clear hO hv hn hn0 hnc
  go_enter Tryd.func39, Tryd.ntmps39
  go_wp2_with (at_builtin; refine Held.on ?_)
  refine held_append_inS rfl (.tmp 32) (.tmp 33) 87 87 rfl 0 94 _ 2 32 Tryd.underlying87 (.inl Tryd.underlying87) rginfo (by omega) (q := i) (m := 1) rfl rfl HO.out (ys := rgv f) ⟨rfl, rgv_one f, .inl ⟨_, _, rfl, HV.out⟩⟩ (by have := HN.out; omega) (by have := HN.out; omega) ?_
  intro w1 hO1 hg1
  rw [hi1]
  have hl1 : (rgs (R.take i)).length = i * 2 := by rw [rgs_length, List.length_take]; have := HN.out; omega
  have e0 : rgs (R.take i ++ ([f] ++ R.drop n)) = rgs (R.take i) ++ rgv f := by
    rw [List.drop_of_length_le (by rw [HN.out.1]; exact Nat.le_refl _), List.append_nil, rgs_append]; rfl
  rw [rgs_take] at hO1
  have HE := Lib.hid e0
  have HL1 := Lib.hid hl1
  have HO1 := Lib.hid hO1
  have HT1 : Hid (Tch [a] w w1) := Lib.hid (Tch.grown hg1)
  have hlen : Hid ((R.take i ++ ([f] ++ R.drop n)).length = i1) := Lib.hid (by rw [List.length_append, List.length_append, List.length_take, List.length_drop]; have := HN.out; have := HI.out; simp; omega)
  have k1 : (i1 : Int) ≤ n := by have := HN.out; have := HI.out; omega
  have k1' : (i1 : Int) ≤ c := by have := HN.out; have := HI.out; omega
  clear hO1 hg1 hl1 e0 hi1
  by_cases hz : i1 < n
  · have k2 : decide (i1 < n) = true := decide_eq_true hz
    have k3 : ¬ c = i1 := by omega
    go_wp2_with (with_reducible refine at_clearR ?_)
    refine held_clearS rfl (.tmp 43) 87 rfl 0 94 2 32 _ Tryd.underlying87 rginfo rfl (by decide) (by omega) (b := a) (o' := 0) (k := i1 * 2) (p := i1 * 2) (n := n) (n' := n - i1) (Nat.zero_add _).symm rfl HO1.out (by have := HN.out; have := HI.out; omega) ?_
    intro w2 zs hzs hO2 hg2
    have hcut := hO2.cutS i1 (by have := HN.out; have := HI.out; omega)
    rw [List.take_left' (by
      rw [List.length_take]
      have h := HO1.out.1
      have := HN.out; have := HI.out
      omega)] at hcut
    rw [show i1 * 2 = i * 2 + 2 by have := HI.out; omega, rep_list _ [] _ _ _ HL1.out rfl, ← HE.out] at hcut
    have HF : Hid (Own w2 0 2 (some ⟨a, 0, none⟩) i1 c (rgs (R.take i ++ ([f] ++ R.drop n))) ∧ Tch [a] w w2) := Lib.hid ⟨hcut, HT1.out.trans (Tch.grown hg2)⟩
    clear hO2 hg2 hcut hzs
    go_wp2_with fail
    first | go_ret2 | go_ret
    exact ⟨some ⟨a, 0, none⟩, i1, c, rfl, hlen.out, HF.out.1, .inl rfl, HF.out.2⟩
  · obtain rfl : i1 = n := by have := HN.out; have := HI.out; omega
    have hcut := HO1.out
    rw [List.drop_of_length_le (by rw [rgs_length]; have := HN.out; have := HI.out; show R.length * 2 ≤ i * 2 + 2; omega), List.append_nil, ← HE.out] at hcut
    have HF : Hid (Own w1 0 2 (some ⟨a, 0, none⟩) i1 c (rgs (R.take i ++ ([f] ++ R.drop i1))) ∧ Tch [a] w w1) := Lib.hid ⟨hcut, HT1.out⟩
    clear hcut
    go_wp2_with fail
    first | go_ret2 | go_ret
    exact ⟨some ⟨a, 0, none⟩, i1, c, rfl, hlen.out, HF.out.1, .inl rfl, HF.out.2⟩
theorem rep_src (X F : List Value) (k j : Nat) (hX : k + 2 ≤ X.length) (hF : F.length = 2) (hk : k + 2 ≤ j) : (X.take k ++ (F ++ X.drop (k + 2))).drop j = X.drop j := by
  have hl : (X.take k ++ F).length = k + 2 := by rw [List.length_append, List.length_take, hF]; omega
  rw [← List.append_assoc, List.drop_append, hl, List.drop_of_length_le (by omega), List.nil_append, List.drop_drop]
  congr 1
  omega
theorem rep_fin (X F : List Value) (k j : Nat) (hX : j ≤ X.length) (hF : F.length = 2) (hk : k + 2 ≤ j) :
    ((X.take k ++ (F ++ X.drop (k + 2))).take (k + 2) ++ (X.drop j ++ (X.take k ++ (F ++ X.drop (k + 2))).drop (k + 2 + (X.drop j).length))).take (k + 2 + (X.length - j)) = X.take k ++ (F ++ X.drop j) := by
  have hl : (X.take k ++ F).length = k + 2 := by rw [List.length_append, List.length_take, hF]; omega
  have h1 : (X.take k ++ (F ++ X.drop (k + 2))).take (k + 2) = X.take k ++ F := by rw [← List.append_assoc, List.take_left' hl]
  rw [h1, ← List.append_assoc, List.take_left' (by rw [List.length_append, hl, List.length_drop]), List.append_assoc]
set_option maxHeartbeats 2000000 in
theorem rep_mid (a n c i j v : Nat) (R : List Rg) (f : Rg) (hn : R.length = n) (hn0 : n ≤ 100000) (hij : i < j) (hj : j < n) (hva : v ≠ a) (w : World) (hO : Own w 0 2 (some ⟨a, 0, none⟩) n c (rgs R)) (hv : Rd w (some ⟨v, 0, none⟩) (rgv f)) :
    Calls Tryd.prog 39 #[.slice (some ⟨a, 0, none⟩) n c, .int .i64 (i : Int), .int .i64 (j : Int), .slice (some ⟨v, 0, none⟩) 1 1] w (RepPost (some ⟨a, 0, none⟩) i j R f w) := by
  have hnc := hO.2.1
  have HN := Lib.hid (And.intro hn (And.intro hn0 (And.intro hij (And.intro hj (And.intro hnc hva)))))
  have h1 : (i : Int) ≤ j := by omega
  have h2 : (j : Int) ≤ n := by omega
  have h2' : (j : Int) ≤ c := by omega
  have h3 : ¬ c = i := by omega
  have h3' : ¬ c = j := by omega
  have h4 : ¬ i = j := by omega
  have h4' : ¬ j = n := by omega
  have h5 : (i : Int) ≤ n := by omega
  have h5' : (i : Int) ≤ c := by omega
  obtain ⟨i1, hi1⟩ : ∃ i1, i + 1 = i1 := ⟨_, rfl⟩
  obtain ⟨d, hd⟩ : ∃ d, n - j = d := ⟨_, rfl⟩
  obtain ⟨t, ht⟩ : ∃ t, i1 + d = t := ⟨_, rfl⟩
  have HI := Lib.hid (And.intro hi1 (And.intro hd ht))
  have e1 : (i : Int) + 1 = (i1 : Int) := by omega
  have e2 : (i1 : Int) + (d : Int) = (t : Int) := by omega
  have W1 : Hid (wrap64 (i1 : Int) = (i1 : Int)) := Lib.hid (w64_all i1 (by omega))
  have W2 : Hid (IntKind.i64.wrap (i1 : Int) = (i1 : Int)) := Lib.hid (i64_nat i1 (by omega))
  have W3 : Hid (wrap64 (t : Int) = (t : Int)) := Lib.hid (w64_all t (by omega))
  have W4 : Hid (IntKind.i64.wrap (t : Int) = (t : Int)) := Lib.hid (i64_nat t (by omega))
  have HO := Lib.hid hO
  have HV := Lib.hid hv
  clear hO hv hn hn0 hij hj hnc hva hi1 ht
  go_enter Tryd.func39, Tryd.ntmps39
  go_wp2_with fail
  have w2' := W2.out
  have w4' := W4.out
  go_quiet (fail)
  have hbq := below_drewN (Below.refl w.heap.size w) nq
  have HBQ := Lib.hid hbq
  have HO1 := Lib.hid (HO.out.keep hbq)
  have HV1 := Lib.hid (HV.out.keep hbq)
  clear hbq w2' w4'
  generalize w.drewN nq = w1 at *
  have k1 : ¬ c < t := by have := HN.out; have := HI.out; omega
  have k2 : (t : Int) ≤ c := by have := HN.out; have := HI.out; omega
  have k3 : (i : Int) ≤ t := by have := HN.out; have := HI.out; omega
  have k4 : decide (i1 ≤ j) = true := decide_eq_true (by have := HN.out; have := HI.out; omega)
  have w1' := W1.out
  have w2' := W2.out
  go_wp2_with (with_reducible refine at_copyR ?_)
  refine held_copyS rfl (.tmp 95) (.tmp 96) 87 87 rfl 0 94 2 Tryd.underlying87 rgsize (b := a) (o' := 0) (k := i * 2) (p := i * 2) (n := n) (n' := t - i) (m := 1) (Nat.zero_add _).symm rfl rfl HO1.out (ys := rgv f) (by have := HN.out; have := HI.out; rw [show Nat.min 1 (t - i) = 1 by simp only [Nat.min_def]; split <;> omega]; rfl) (by have := HN.out; show i * 2 + 2 ≤ n * 2; omega) HV1.out (rgv_one f) ?_
  intro w2 hO2 hg2
  have hX : (rgs R).length = n * 2 := by rw [rgs_length, HN.out.1]
  have HO2 : Hid (Own w2.drew 0 2 (some ⟨a, 0, none⟩) n c ((rgs R).take (i * 2) ++ (rgv f ++ (rgs R).drop (i * 2 + 2)))) := Lib.hid (hO2.keep (below_drew w2))
  have HR2 : Hid (Rd w2.drew (some ⟨a, j * 2, none⟩) (rgs (R.drop j))) := Lib.hid (by
    have h := HO2.out.rd.drop (j * 2)
    rw [rep_src _ _ _ _ (by have := HN.out; omega) rfl (by have := HN.out; omega), rgs_drop] at h
    simpa [add_lit] using h)
  have HT2 : Hid (Tch [a] w w2.drew) := Lib.hid (((Tch.below HBQ.out _).trans (Tch.grown hg2)).trans ((Tch.drew w2).more (by simp)))
  have HX := Lib.hid hX
  have k5 : (i1 : Int) ≤ t := by have := HN.out; have := HI.out; omega
  have k6 : ¬ c = i1 := by have := HN.out; have := HI.out; omega
  clear hO2 hg2 hX HO1 HV1 e2
  go_wp2_with fail
  refine wp_region_still_tail 9 (by kernel_rfl) (by kernel_rfl) ?_
  simp only [List.take_succ_cons, List.take_zero, List.drop_succ_cons, List.drop_zero]
  change wpStill _ _ (World.drew w2) (fun a => wpList _ _ _ _ a (World.drew w2)) _ _
  generalize World.drew w2 = w3 at *
  repeat still_step
  refine wpStill_nil ?_
  refine held_copyS rfl (.tmp 103) (.tmp 106) 87 87 rfl 0 94 2 Tryd.underlying87 rgsize (b := a) (o' := 0) (k := i * 2 + 2) (p := i1 * 2) (n := n) (n' := t - i1) (m := d) (by have := HI.out; omega) rfl rfl HO2.out (ys := rgs (R.drop j)) (by have := HN.out; have := HI.out; rw [show Nat.min d (t - i1) = n - j by simp only [Nat.min_def]; split <;> omega, rgs_length, List.length_drop, HN.out.1]) (by have := HN.out; rw [rgs_length, List.length_drop, HN.out.1]; omega) HR2.out (rgs_one _) ?_
  intro w4 hO4 hg4
  rw [← rgs_drop] at hO4
  have hfin := rep_fin (rgs R) (rgv f) (i * 2) (j * 2) (by have := HN.out; have := HX.out; omega) rfl (by have := HN.out; omega)
  have hres : (rgs R).take (i * 2) ++ (rgv f ++ (rgs R).drop (j * 2)) = rgs (R.take i ++ ([f] ++ R.drop j)) := by
    rw [rgs_take, rgs_drop, rgs_append, rgs_append]; rfl
  rw [hres, show i * 2 + 2 + ((rgs R).length - j * 2) = t * 2 by have := HN.out; have := HI.out; have := HX.out; omega] at hfin
  generalize hZ : ((rgs R).take (i * 2) ++ (rgv f ++ (rgs R).drop (i * 2 + 2))).take (i * 2 + 2) ++ ((rgs R).drop (j * 2) ++ ((rgs R).take (i * 2) ++ (rgv f ++ (rgs R).drop (i * 2 + 2))).drop (i * 2 + 2 + ((rgs R).drop (j * 2)).length)) = Z at *
  have HFIN := Lib.hid hfin
  have HO4 := Lib.hid hO4
  have HT4 : Hid (Tch [a] w w4) := Lib.hid (HT2.out.trans (Tch.grown hg4))
  have hlen : Hid ((R.take i ++ ([f] ++ R.drop j)).length = t) := Lib.hid (by rw [List.length_append, List.length_append, List.length_take, List.length_drop]; have := HN.out; have := HI.out; simp; omega)
  have k7 : (t : Int) ≤ n := by have := HN.out; have := HI.out; omega
  clear hO4 hg4 hZ hfin hres w1' w2' HO2 HR2 HT2 e1
  by_cases hz : t = n
  · have HF : Hid (Own w4 0 2 (some ⟨a, 0, none⟩) t c (rgs (R.take i ++ ([f] ++ R.drop j)))) := Lib.hid (by
      have h := HO4.out.cutS t (by omega)
      rwa [HFIN.out] at h)
    subst hz
    have hcn : c = t ∨ ¬ c = t := by omega
    rcases hcn with hcn | hcn
    case' inl => (have hcn' := hcn.symm; clear hcn; subst hcn')
    all_goals
      go_wp2_with (with_reducible refine at_clearR ?_)
      refine held_clear0 rfl (.tmp 110) 87 rfl 94 Tryd.underlying87 (by rfl) ?_
      go_wp2_with fail
      first | go_ret2 | go_ret
      exact ⟨some ⟨a, 0, none⟩, t, _, rfl, hlen.out, HF.out, .inl rfl, HT4.out⟩
  · have k8 : ¬ c = t := by have := HN.out; have := HI.out; omega
    go_wp2_with (with_reducible refine at_clearR ?_)
    refine held_clearS rfl (.tmp 110) 87 rfl 0 94 2 32 _ Tryd.underlying87 rginfo rfl (by decide) (by omega) (b := a) (o' := 0) (k := t * 2) (p := t * 2) (n := n) (n' := n - t) (Nat.zero_add _).symm rfl HO4.out (by have := HN.out; have := HI.out; omega) ?_
    intro w5 zs hzs hO5 hg5
    have hcut := hO5.cutS t (by have := HN.out; have := HI.out; omega)
    rw [List.take_left' (by
      rw [List.length_take]
      have h := HO4.out.1
      have := HN.out; have := HI.out
      omega), HFIN.out] at hcut
    have HF : Hid (Own w5 0 2 (some ⟨a, 0, none⟩) t c (rgs (R.take i ++ ([f] ++ R.drop j))) ∧ Tch [a] w w5) := Lib.hid ⟨hcut, HT4.out.trans (Tch.grown hg5)⟩
    clear hO5 hg5 hcut hzs
    go_wp2_with fail
    first | go_ret2 | go_ret
    exact ⟨some ⟨a, 0, none⟩, t, c, rfl, hlen.out, HF.out.1, .inl rfl, HF.out.2⟩
theorem rep_any (E : Option Addr) (n c i j v : Nat) (R : List Rg) (f : Rg) (hn : R.length = n) (hn0 : n ≤ 100000) (hij : i ≤ j) (hj : j ≤ n) (w : World) (hE : Hi 0 E) (hva : E.map (·.block) ≠ some v) (hO : Own w 0 2 E n c (rgs R)) (hv : Blk w v 94 #[.int .u32 (f.off : Nat), .slice f.A f.l.length f.c]) :
    Calls Tryd.prog 39 #[.slice E n c, .int .i64 (i : Int), .int .i64 (j : Int), .slice (some ⟨v, 0, none⟩) 1 1] w (RepPost E i j R f w) := by
  rcases Nat.lt_or_ge i j with h | h
  · obtain ⟨r, hr⟩ : ∃ r, R[i]? = some r := ⟨_, List.getElem?_eq_getElem (by omega)⟩
    obtain ⟨a, rfl⟩ := rgAddr hE hO.rd hr
    rcases Nat.lt_or_ge j n with h2 | h2
    · exact rep_mid a n c i j v R f hn hn0 h h2 (by simp at hva; omega) w hO (rgBlk hv)
    · obtain rfl : j = n := by omega
      exact rep_end a j c i v R f hn hn0 h w hO (rgBlk hv)
  · obtain rfl : i = j := by omega
    exact rep_ins E n c i v R f hn hn0 hj w hE hva hO hv
end Go.Proofs.YtadblfnggmaadaaDoor
