/- Walks: laws.ranged. -/
import Derived.Test.YtadblfnggmaadaaDoorRgK
namespace Go.Proofs.YtadblfnggmaadaaDoor
open Go.RowKit Go.Cv
set_option maxRecDepth 100000
set_option linter.unusedVariables false
theorem boolinfo : (Tryd.prog.info? 4).map (fun i => (i.zero, i.size, i.bytes)) = some (some (.bool false), 1, 1) := by kernel_rfl
theorem covBy_take {R : List Rg} {i : Nat} {r : Rg} (h : R[i]? = some r) (k : Nat) : CovBy (R.take (i + 1)) k ↔ (CovBy (R.take i) k ∨ (r.off ≤ k ∧ k < r.fin)) := by
  rw [take_one h]
  constructor
  · rintro ⟨x, hx, h1, h2⟩
    rcases List.mem_append.1 hx with hx | hx
    · exact .inl ⟨x, hx, h1, h2⟩
    · simp at hx; subst hx; exact .inr ⟨h1, h2⟩
  · rintro (⟨x, hx, h1, h2⟩ | ⟨h1, h2⟩)
    · exact ⟨x, List.mem_append.2 (.inl hx), h1, h2⟩
    · exact ⟨r, by simp, h1, h2⟩
theorem w64_few (a : Nat) (h : a ≤ 2000) : wrap64 (a : Int) = (a : Int) := by unfold wrap64; omega
theorem w64_sum (a m f : Nat) (h : a + m = f) (hf : f ≤ 2000) : wrap64 ((a : Int) + (m : Int)) = (f : Int) := by subst h; unfold wrap64; omega
theorem w64_dec (i : Nat) (h : i ≤ 2000) : wrap64 (((i + 1 : Nat) : Int) - 1) = (i : Int) := by unfold wrap64; omega
theorem offs_cell {w : World} {b o : Nat} {R : List Rg} (h : Rd w (some ⟨b, o, none⟩) (offs R)) (j : Nat) (r : Rg) (hj : R[j]? = some r) : w.cell? ⟨b, o + j, none⟩ = some (.int .u32 (r.off : Nat)) := by
  obtain ⟨b', o', h1, h2⟩ := offs_at h j r hj
  injection h1 with h1; injection h1 with h1 h3; subst h1 h3; exact h2
theorem txts_cell {w : World} {b o : Nat} {R : List Rg} (h : Rd w (some ⟨b, o, none⟩) (txts R)) (j : Nat) (r : Rg) (hj : R[j]? = some r) : w.cell? ⟨b, o + j, none⟩ = some (.string (S r.l)) := by
  obtain ⟨b', o', h1, h2⟩ := txts_at h j r hj
  injection h1 with h1; injection h1 with h1 h3; subst h1 h3; exact h2
theorem ms_step {P : Prop} {a q s k : Nat} (h : a + q = s) : ((P ∨ (a ≤ k ∧ k < a + q)) ∨ k = s) ↔ (P ∨ (a ≤ k ∧ k < a + (q + 1))) := by
  constructor
  · rintro ((h1 | h1) | h1)
    · exact .inl h1
    · exact .inr (by omega)
    · exact .inr (by omega)
  · rintro (h1 | h1)
    · exact .inl (.inl h1)
    · rcases Nat.lt_or_ge k (a + q) with h2 | h2
      · exact .inl (.inr ⟨h1.1, h2⟩)
      · exact .inr (by omega)
theorem covBy_nil (k : Nat) : ¬ CovBy ([] : List Rg) k := fun ⟨r, h, _⟩ => by simp at h
set_option maxHeartbeats 4000000 in
theorem ranged_any (body : List UInt8) (R : List Rg) (cov : Nat) (hK : Kept body R cov) (hL : body.length ≤ 2000) (hR : R.length ≤ 60) (cm : List Bool) (hm : Ms (CovBy R) body.length cm) (B : Option Addr) (cB : Nat) (t : Tl) (ht : t.R = R) (htc : t.cov = cov) (w : World) (hB : Rd w B (bv cm)) (h1 : Rd w t.A1 (offs R)) (h2 : Rd w t.A2 (txts R)) :
    Calls Tryd.prog 7 #[.string (S body), .slice B body.length cB, .agg #[.bool t.ok, .int .i64 t.fr, .int .i64 t.by_, .int .u32 (t.cov : Nat), .slice t.A1 t.R.length t.c1, .slice t.A2 t.R.length t.c2]] w fun e w' => e = .returned (.bool true) ∧ Below w.heap.size w w' := by
  obtain ⟨ok, fr, by_, cov', R', A1, c1, A2, c2⟩ := t
  subst ht htc
  simp only at hK hR hm h1 h2 ⊢
  obtain ⟨n, hn⟩ : ∃ n, R'.length = n := ⟨_, rfl⟩
  obtain ⟨L, hLL⟩ : ∃ L, body.length = L := ⟨_, rfl⟩
  have HK := Lib.hid (And.intro hK (And.intro hm (And.intro hn (And.intro hLL (And.intro hL hR)))))
  have HR := Lib.hid (And.intro hB (And.intro h1 h2))
  rw [hn]
  clear hK hL hR hm hB h1 h2 hn
  go_enter Tryd.func7, Tryd.ntmps7
  go_upto_region 1 with (fail)
  have hb1 := below_alloc w (.cells #[.bool ok, .int .i64 fr, .int .i64 by_, .int .u32 (cov' : Nat), .slice A1 n c1, .slice A2 n c2] 36)
  have hk1 := Blk.new w 36 #[.bool ok, .int .i64 fr, .int .i64 by_, .int .u32 (cov' : Nat), .slice A1 n c1, .slice A2 n c2]
  obtain ⟨p, hp⟩ : ∃ p, w.heap.size = p := ⟨_, rfl⟩
  simp only [hp] at hk1 ⊢
  have HB1 := Lib.hid (And.intro hb1 hk1)
  clear hb1 hk1
  generalize w.alloc (.cells #[.bool ok, .int .i64 fr, .int .i64 by_, .int .u32 (cov' : Nat), .slice A1 n c1, .slice A2 n c2] 36) = w1 at *
  have z1 : (S body).size = L := by rw [S_size, hLL]
  rw [hLL]
  go_wp2_with fail
  refine upon_make 32 4 (.bool false) 1 Tryd.underlying32 boolinfo rfl L L rfl rfl (Nat.le_refl _) (by have := HK.out; omega) (by have := HK.out; simp only [maxLen]; omega) ?_
  intro w2 hO2 hb2 hs2
  rw [bv_false] at hO2
  obtain ⟨g, hg⟩ : ∃ g, w1.heap.size = g := ⟨_, rfl⟩
  rw [hg] at hO2 ⊢
  have HB2 := Lib.hid (And.intro (below_two HB1.out.1 hb2) (And.intro (HB1.out.2.keep hb2) (by rw [← hg]; have := HB1.out.2.lt; omega : p < g)))
  have HO2 := Lib.hid hO2
  have HG : Hid (w.heap.size ≤ g) := Lib.hid (by have := HB1.out.1.size; omega)
  have q4 : w2.cell? ⟨p, 4, none⟩ = some (.slice A1 n c1) := (HB2.out.2.1.cell 4).trans rfl
  have q5 : w2.cell? ⟨p, 5, none⟩ = some (.slice A2 n c2) := (HB2.out.2.1.cell 5).trans rfl
  clear hO2 hb2 hs2 hg hp
  go_wp2_with fail
  go_loopw [26] (fun i wr => ∃ j : Nat, j ≤ n ∧ i = .int .i64 j ∧ Hid (Below w.heap.size w wr ∧ Blk wr p 36 #[.bool ok, .int .i64 fr, .int .i64 by_, .int .u32 (cov' : Nat), .slice A1 n c1, .slice A2 n c2] ∧ ∃ h : List Bool, Ms (CovBy (R'.take j)) L h ∧ Own wr 0 1 (some ⟨g, 0, none⟩) L L (bv h))) (fun i _ => n - (intOf i).toNat)
  case atStart => exact ⟨0, Nat.zero_le _, rfl, Lib.hid ⟨HB2.out.1, HB2.out.2.1, _, Ms.none L _ covBy_nil, HO2.out.lower (Nat.zero_le _)⟩⟩
  case round =>
    obtain ⟨j, hj, rfl, HM⟩ := hrel
    by_cases hlt : j < n
    · obtain ⟨r, hr⟩ : ∃ r, R'[j]? = some r := ⟨_, List.getElem?_eq_getElem (by rw [HK.out.2.2.1]; exact hlt)⟩
      obtain ⟨b1, o1, rfl, x1⟩ := offs_at (HR.out.2.1.keep HM.out.1) j r hr
      obtain ⟨b2, o2, rfl, x2⟩ := txts_at (HR.out.2.2.keep HM.out.1) j r hr
      have q4 : wr.cell? ⟨p, 4, none⟩ = some (.slice (some ⟨b1, o1, none⟩) n c1) := (HM.out.2.1.cell 4).trans rfl
      have q5 : wr.cell? ⟨p, 5, none⟩ = some (.slice (some ⟨b2, o2, none⟩) n c2) := (HM.out.2.1.cell 5).trans rfl
      have hmem := List.mem_of_getElem? hr
      have hfin := HK.out.1.fin r hmem
      have htxt := HK.out.1.txt r hmem
      obtain ⟨a, ha⟩ : ∃ a, r.off = a := ⟨_, rfl⟩
      obtain ⟨m, hm⟩ : ∃ m, r.l.length = m := ⟨_, rfl⟩
      obtain ⟨f, hf⟩ : ∃ f, a + m = f := ⟨_, rfl⟩
      obtain ⟨l, hl⟩ : ∃ l, r.l = l := ⟨_, rfl⟩
      have hrf : r.fin = f := by rw [← hf, ← ha, ← hm]; rfl
      have HRJ := Lib.hid (And.intro hr (And.intro ha (And.intro hm (And.intro hf hl))))
      have hfL : f ≤ L := by have := HK.out.2.2.2.1; omega
      have hL2 : L ≤ 2000 := by have := HK.out; omega
      have hjn : (j : Int) < n := by omega
      have z2 : (S l).size = m := by rw [S_size, ← hl, hm]
      rw [ha] at x1 htxt
      rw [hl] at x2 htxt
      rw [hrf] at htxt
      have HTX := Lib.hid htxt
      have e2 : ¬ L < f := by omega
      have e3 : a ≤ f := by omega
      have f1 : a ≤ 2000 := by omega
      have f2 : f ≤ 2000 := by omega
      have s1 : (a : Int) + (m : Int) = (f : Int) := by omega
      have W1 := Lib.hid (And.intro (w64_few a f1) (And.intro (i64_nat a (by omega)) (And.intro (w64_few f f2) (i64_nat f (by omega)))))
      have z3 : (S body).extract a f = S l := by rw [S_extract, ← htxt]
      have HL2 := Lib.hid (And.intro hfL hL2)
      clear hr hmem hfin htxt ha hm hf hl hrf f1 f2 hL2
      go_upto_region 7 with (fail)
      obtain ⟨e0, e1, e2', e3'⟩ := W1.out
      go_upto_region 8 with (fail)
      clear x1 x2 q4 q5
      go_upto_region 10 with (fail)
      have S1 := Lib.hid s1
      clear e0 e1 e2' e3' z3 e2 e3 s1 hfL z1
      go_cut [92] (fun v wx => v = .bool false ∧ Hid (Below wr.heap.size wr wx))
      case first =>
        by_cases hj0 : 0 < j
        · obtain ⟨i, hi⟩ : ∃ i, j = i + 1 := ⟨j - 1, by omega⟩
          obtain ⟨r', hr'⟩ : ∃ r', R'[i]? = some r' := ⟨_, List.getElem?_eq_getElem (by rw [HK.out.2.2.1]; omega)⟩
          have x1 := offs_cell (HR.out.2.1.keep HM.out.1) j r HRJ.out.1
          have x3 := offs_cell (HR.out.2.1.keep HM.out.1) i r' hr'
          have x4 := txts_cell (HR.out.2.2.keep HM.out.1) i r' hr'
          rw [HRJ.out.2.1] at x1
          have q4 : wr.cell? ⟨p, 4, none⟩ = some (.slice (some ⟨b1, o1, none⟩) n c1) := (HM.out.2.1.cell 4).trans rfl
          have q5 : wr.cell? ⟨p, 5, none⟩ = some (.slice (some ⟨b2, o2, none⟩) n c2) := (HM.out.2.1.cell 5).trans rfl
          obtain ⟨ho, hf'⟩ := HK.out.1.asc i j r' r (by omega) hr' HRJ.out.1
          have hL' := HK.out.1.fin r' (List.mem_of_getElem? hr')
          obtain ⟨a', ha'⟩ : ∃ a', r'.off = a' := ⟨_, rfl⟩
          obtain ⟨l', hl'⟩ : ∃ l', r'.l = l' := ⟨_, rfl⟩
          obtain ⟨m', hm'⟩ : ∃ m', l'.length = m' := ⟨_, rfl⟩
          obtain ⟨f', hf0⟩ : ∃ f', a' + m' = f' := ⟨_, rfl⟩
          have hr1 : r'.fin = f' := by rw [← hf0, ← ha', ← hm', ← hl']; rfl
          have hr2 : r.fin = f := by rw [← HRJ.out.2.2.2.1, ← HRJ.out.2.1, ← HRJ.out.2.2.1]; rfl
          rw [ha'] at x3
          rw [hl'] at x4
          rw [hr1, hr2] at hf'
          rw [hr1] at hL'
          rw [ha', HRJ.out.2.1] at ho
          have hL2 := HK.out.2.2.2.2
          have k1 : (j : Int) - 1 = (i : Int) := by omega
          have k2 : (a' : Int) + (m' : Int) = (f' : Int) := by omega
          have k3 : decide (a ≤ a') = false := by simp; omega
          have k4 : decide (f ≤ f') = false := by simp; omega
          have k5 : decide ((0 : Int) < (j : Int)) = true := by simp; omega
          have k7 : decide (0 < j) = true := by simp; omega
          have k6 : (i : Int) < n := by omega
          have z4 : (S l').size = m' := by rw [S_size, hm']
          have f1 : i ≤ 2000 := by have := HK.out.2.2.1; omega
          have f2 : a' ≤ 2000 := by omega
          have f3 : f' ≤ 2000 := by omega
          have w1 := w64_few i f1
          have w2 := w64_few a' f2
          have w3 := w64_few f' f3
          have w4 := (W1.out).2.2.1
          have s1 := S1.out
          clear ho hf' hL' ha' hl' hm' hf0 hr1 hr2 hL2 f1 f2 f3 hi hr' hj0
          go_wp2_with fail
          go_quiet (fail)
          have HDR := Lib.hid (below_drewN (Below.refl wr.heap.size wr) nq)
          generalize wr.drewN nq = wE at *
          go_wp2_with fail
          go_meet
          case rel => exact ⟨rfl, HDR⟩
        · have k5 : decide ((0 : Int) < (j : Int)) = false := by simp; omega
          have k7 : decide (0 < j) = false := by simp; omega
          clear hj0
          go_wp2_with fail
          go_quiet (fail)
          have HDR := Lib.hid (below_drewN (Below.refl wr.heap.size wr) nq)
          generalize wr.drewN nq = wE at *
          go_wp2_with fail
          go_meet
          case rel => exact ⟨rfl, HDR⟩
      case rest =>
        obtain ⟨rfl, hcut⟩ := hcut
        generalize wc = w4 at *
        obtain ⟨h0, hm0, ho0⟩ := HM.out.2.2
        have HM4 := Lib.hid (And.intro (below_two HM.out.1 hcut.out) (And.intro (HM.out.2.1.keep hcut.out) (And.intro hm0 (ho0.keep hcut.out))))
        clear hm0 ho0
        go_wp2_with fail
        go_loopw [95] (fun i wr => ∃ q : Nat, q ≤ m ∧ i = .int .i64 q ∧ Hid (Below w.heap.size w wr ∧ Blk wr p 36 #[.bool ok, .int .i64 fr, .int .i64 by_, .int .u32 (cov' : Nat), .slice (some ⟨b1, o1, none⟩) n c1, .slice (some ⟨b2, o2, none⟩) n c2] ∧ ∃ h : List Bool, Ms (fun k => CovBy (R'.take j) k ∨ (a ≤ k ∧ k < a + q)) L h ∧ Own wr 0 1 (some ⟨g, 0, none⟩) L L (bv h))) (fun i _ => m - (intOf i).toNat)
        case atStart => exact ⟨0, Nat.zero_le _, rfl, Lib.hid ⟨HM4.out.1, HM4.out.2.1, h0, HM4.out.2.2.1.to (fun k _ => ⟨.inl, fun h => h.elim id (fun h => by omega)⟩), HM4.out.2.2.2⟩⟩
        case round =>
          obtain ⟨q, hq, rfl, HI⟩ := hrel
          by_cases hlq : q < m
          · obtain ⟨h1, hm1, ho1⟩ := HI.out.2.2
            obtain ⟨s, hs⟩ : ∃ s, a + q = s := ⟨_, rfl⟩
            have hsL : s < L := by have h1 := HL2.out; have h2 := HRJ.out.2.2.2.1; omega
            have hs2 : s ≤ 2000 := by have h1 := HL2.out.2; omega
            obtain ⟨y0, y1⟩ := own_bv ho1 s hsL
            have hq2 : q ≤ 2000 := by omega
            have k1 : (a : Int) + (q : Int) = (s : Int) := by omega
            have k2 : (s : Int) < L := by omega
            have k3 : (q : Int) < m := by omega
            have w1 := w64_few s hs2
            have jw : wrap64 ((q : Int) + 1) = (q : Int) + 1 := w64_inc hlq (by have h1 := HL2.out; have h2 := HRJ.out.2.2.2.1; omega)
            have HN2 : Hid (Below w.heap.size w (wr.setCell ⟨g, s, none⟩ (.bool true)) ∧ Blk (wr.setCell ⟨g, s, none⟩ (.bool true)) p 36 #[.bool ok, .int .i64 fr, .int .i64 by_, .int .u32 (cov' : Nat), .slice (some ⟨b1, o1, none⟩) n c1, .slice (some ⟨b2, o2, none⟩) n c2] ∧ ∃ h : List Bool, Ms (fun k => CovBy (R'.take j) k ∨ (a ≤ k ∧ k < a + (q + 1))) L h ∧ Own (wr.setCell ⟨g, s, none⟩ (.bool true)) 0 1 (some ⟨g, 0, none⟩) L L (bv h)) := Lib.hid ⟨HI.out.1.setCell HG.out _, HI.out.2.1.tch (Tch.set wr g s _) (by have := HB2.out.2.2; simp; omega), _, (hm1.set s hsL).to (fun k _ => ms_step hs), own_bv_set ho1 s true hsL⟩
            clear hm1 ho1 hs hsL hs2 hq2
            go_wp2_with fail
            go_roundw
            case rel => exact ⟨q + 1, hlq, by first | (rw [jw]; go_num) | go_num, HN2⟩
            case measure => first | exact t_measD hlq | (rw [jw]; exact t_measD hlq)
          · obtain rfl : q = m := by omega
            have t1 : ¬ q < q := Nat.lt_irrefl _
            obtain ⟨h1, hm1, ho1⟩ := HI.out.2.2
            have HM5 : Hid (Ms (CovBy (R'.take (j + 1))) L h1 ∧ Own wr 0 1 (some ⟨g, 0, none⟩) L L (bv h1)) := Lib.hid ⟨hm1.to (fun k _ => by
              have h2 : r.fin = a + q := by have e1 := HRJ.out.2.1; have e2 := HRJ.out.2.2.1; unfold Rg.fin; omega
              have h3 := covBy_take HRJ.out.1 k
              rw [h3, HRJ.out.2.1, h2]), ho1⟩
            have jw : wrap64 ((j : Int) + 1) = (j : Int) + 1 := w64_inc hlt (by have h1 := HK.out; omega)
            clear hm1 ho1
            go_wp2_with fail
            go_roundw
            case rel => exact ⟨j + 1, hlt, by first | (rw [jw]; go_num) | go_num, Lib.hid ⟨HI.out.1, HI.out.2.1, h1, HM5.out⟩⟩
            case measure => first | exact t_measD hlt | (rw [jw]; exact t_measD hlt)
    · obtain rfl : j = n := by omega
      have t1 : ¬ j < j := Nat.lt_irrefl _
      obtain ⟨h0, hm0, ho0⟩ := HM.out.2.2
      have hh : h0 = cm := by
        have h1 := HK.out.2.2.1
        rw [← h1, List.take_length] at hm0
        have h2 := HK.out.2.1
        rw [HK.out.2.2.2.1] at h2
        exact hm0.same h2
      subst hh
      have HO0 := Lib.hid ho0
      clear hm0 ho0
      clear q4 q5
      go_wp2_with fail
      go_loopw [12] (fun i wr => ∃ d : Nat, d ≤ cov' ∧ i = .int .i64 d ∧ Hid (Below w.heap.size w wr ∧ Blk wr p 36 #[.bool ok, .int .i64 fr, .int .i64 by_, .int .u32 (cov' : Nat), .slice A1 j c1, .slice A2 j c2] ∧ Own wr 0 1 (some ⟨g, 0, none⟩) L L (bv h0))) (fun i _ => cov' - (intOf i).toNat)
      case atStart => exact ⟨0, Nat.zero_le _, rfl, Lib.hid ⟨HM.out.1, HM.out.2.1, HO0.out⟩⟩
      case round =>
        obtain ⟨d, hd, rfl, HI⟩ := hrel
        have hpre := HK.out.1.pre
        have hcL : cov' ≤ L := by have := hpre.1; omega
        by_cases hlc : d < cov'
        · have hB := HR.out.1.keep HI.out.1
          have hlen : h0.length = L := by rw [HK.out.2.1.len, HK.out.2.2.2.1]
          obtain ⟨cb, co, hBe, _⟩ := hB.resolve_left (bv_ne (by omega))
          subst hBe
          have y0 := bv_at hB d (by omega)
          have y1 : h0.getD d false = true := (HK.out.2.1.iff d (by rw [HK.out.2.2.2.1]; omega)).2 (hpre.2.1 d hlc)
          rw [y1] at y0
          have hL2 := HK.out.2.2.2.2.1
          have k1 : (d : Int) < L := by omega
          have jw : wrap64 ((d : Int) + 1) = (d : Int) + 1 := w64_inc hlc (by omega)
          clear hpre hB y1 hL2 hlen
          go_wp2_with fail
          go_roundw
          case rel => exact ⟨d + 1, hlc, by first | (rw [jw]; go_num) | go_num, HI⟩
          case measure => first | exact t_measD hlc | (rw [jw]; exact t_measD hlc)
        · obtain rfl : d = cov' := by omega
          clear hlc hd
          go_upto_region 19 with (fail)
          go_cut [114] (fun v wx => v = .bool false ∧ wx = wr)
          case first =>
            rcases Nat.lt_or_ge d L with hdL | hdL
            · have hB := HR.out.1.keep HI.out.1
              have hlen : h0.length = L := by rw [HK.out.2.1.len, HK.out.2.2.2.1]
              obtain ⟨cb, co, hBe, _⟩ := hB.resolve_left (bv_ne (by omega))
              subst hBe
              have y0 := bv_at hB d (by omega)
              have y1 : h0.getD d false = false := by
                have h1 := HK.out.2.1.iff d (by rw [HK.out.2.2.2.1]; omega)
                have h2 := hpre.2.2 (by rw [HK.out.2.2.2.1]; exact hdL)
                cases h3 : h0.getD d false
                · rfl
                · exact absurd (h1.1 h3) h2
              rw [y1] at y0
              have k1 : (d : Int) < L := by omega
              clear hpre hB y1 hlen
              go_wp2_with fail
              go_meet
              case rel => exact ⟨rfl, rfl⟩
            · have k1 : ¬ (d : Int) < L := by omega
              have k2 : ¬ d < L := by omega
              clear hpre
              go_wp2_with fail
              go_meet
              case rel => exact ⟨rfl, rfl⟩
          case rest =>
            obtain ⟨rfl, rfl⟩ := hcut
            have x3 : wc.cell? ⟨p, 3, none⟩ = some (.int .u32 (d : Nat)) := (HI.out.2.1.cell 3).trans rfl
            have hd2 : d ≤ 2000 := by have := HK.out.2.2.2.2.1; omega
            have w1 := w64_few d hd2
            have HC := Lib.hid (listB_any (some ⟨g, 0, none⟩) B L L cB h0 (by rw [HK.out.2.1.len, HK.out.2.2.2.1]) (by have := HK.out.2.2.2.2.1; omega) wc HI.out.2.2.rd (HR.out.1.keep HI.out.1))
            clear hpre hd2
            go_wp2_with fail
            refine HC.out.mono ?_
            rintro e w9 ⟨rfl, hb9⟩
            have HB9 := Lib.hid (below_two HI.out.1 hb9)
            have x4 := keep_of_below hb9 _ _ x3
            clear hb9 x3
            go_wp2_with fail
            go_ret
            exact ⟨rfl, HB9.out⟩
end Go.Proofs.YtadblfnggmaadaaDoor
