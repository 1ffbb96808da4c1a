/- Walks: pieces of a message: how much of the beginning is there. -/
import Derived.Test.YtadblfnggmaadaaDoorRgC
namespace Go.Proofs.YtadblfnggmaadaaDoor
open Go.RowKit Go.Cv
set_option maxRecDepth 100000
set_option linter.unusedVariables false
theorem t_measD {j n : Nat} (h : j < n) : n - (intOf (Value.int .i64 ((j : Int) + 1))).toNat < n - (intOf (Value.int .i64 (j : Int))).toNat := by simp [intOf]; omega
def advL : List Rg → Nat → Nat
  | [], cv => cv
  | r :: rs, cv => if r.off ≤ cv then advL rs (max cv r.fin) else cv
theorem advL_step {R : List Rg} {k : Nat} {r : Rg} {cv : Nat} (hk : R[k]? = some r) (h : r.off ≤ cv) : advL (R.drop k) cv = advL (R.drop (k + 1)) (max cv r.fin) := by
  obtain ⟨hl, hr⟩ := List.getElem?_eq_some_iff.1 hk
  rw [List.drop_eq_getElem_cons hl, hr, advL, if_pos h]
theorem advL_stop {R : List Rg} {k : Nat} {r : Rg} {cv : Nat} (hk : R[k]? = some r) (h : ¬ r.off ≤ cv) : advL (R.drop k) cv = cv := by
  obtain ⟨hl, hr⟩ := List.getElem?_eq_some_iff.1 hk
  rw [List.drop_eq_getElem_cons hl, hr, advL, if_neg h]
theorem advL_end {R : List Rg} {k : Nat} {cv : Nat} (hk : R.length ≤ k) : advL (R.drop k) cv = cv := by
  rw [List.drop_of_length_le hk, advL]
theorem fr1 {w : World} {g n c cov : Nat} {E : Option Addr} {rs : List Value} (hg : Blk w g 92 (frRow E n c cov rs)) :
    w.cell? ⟨g, 0, none⟩ = some (.slice E n c) ∧ w.cell? ⟨g, 1, none⟩ = some (.int .u32 (cov : Nat)) ∧ w.frozen? ⟨g, 0, none⟩ = false ∧ w.frozen? ⟨g, 1, none⟩ = false :=
  ⟨(hg.cell 0).trans (by simp [frRow]), (hg.cell 1).trans (by simp [frRow]), hg.frozen 0, hg.frozen 1⟩
theorem fr1_set {w : World} {g n c cov cv : Nat} {E : Option Addr} {rs : List Value} (hg : Blk w g 92 (frRow E n c cov rs)) : Blk (w.setCell ⟨g, 1, none⟩ (.int .u32 (cv : Nat))) g 92 (frRow E n c cv rs) := by
  have h := hg.set_ 1 (.int .u32 (cv : Nat))
  have e : (frRow E n c cov rs).setIfInBounds 1 (.int .u32 (cv : Nat)) = frRow E n c cv rs := by
    apply Array.ext'
    simp [frRow]
  rw [e] at h
  exact h
set_option maxHeartbeats 2000000 in
theorem adv_any (g a i c cov n : Nat) (R : List Rg) (rs : List Value) (hn : R.length = n) (hn0 : n ≤ 100000) (hs : Small R) (hi0 : i < n) (hcov : cov ≤ 1000000) (hga : g ≠ a) (w : World)
    (hg : Blk w g 92 (frRow (some ⟨a, 0, none⟩) n c cov rs)) (hr : Rd w (some ⟨a, 0, none⟩) (rgs R)) :
    Calls Tryd.prog 40 #[.pointer (some ⟨g, 0, none⟩), .int .i64 (i : Int)] w fun e w' => e = .returned (.tuple #[]) ∧ Blk w' g 92 (frRow (some ⟨a, 0, none⟩) n c (advL (R.drop i) cov) rs) ∧ Tch [g] w w' := by
  obtain ⟨r, hi⟩ : ∃ r, R[i]? = some r := ⟨_, List.getElem?_eq_getElem (by omega)⟩
  obtain ⟨hil, hir⟩ := List.getElem?_eq_some_iff.1 hi
  obtain ⟨c0, c1⟩ := rgCell hr i hil
  rw [hir, Nat.zero_add] at c0 c1
  obtain ⟨g0, g1, f0, f1⟩ := fr1 hg
  obtain ⟨x, hx⟩ : ∃ x, r.off = x := ⟨_, rfl⟩
  rw [hx] at c0
  have t1 : i < n := hi0
  have HG := Lib.hid (And.intro hg hr)
  have HN := Lib.hid (And.intro hn (And.intro hn0 (And.intro hs (And.intro hcov hga))))
  obtain ⟨tg, htg⟩ : ∃ t, advL (R.drop i) cov = t := ⟨_, rfl⟩
  rw [htg]
  by_cases hxc : x ≤ cov
  · have t2 : decide (cov < x) = false := decide_eq_false (by omega)
    have HT := Lib.hid htg
    clear c1 hir hil hx f0 f1 hn hn0 hs hcov hga hg hr htg hi0 hi hxc
    go_enter Tryd.func40, Tryd.ntmps40
    go_wp2_with fail
    go_quiet (fail)
    have hb1 := below_drewN (Below.refl w.heap.size w) nq
    have HB1 := Lib.hid hb1
    clear hb1 c0 g0 g1 t2
    generalize w.drewN nq = w1 at *
    go_wp2_with fail
    go_loopw [4] (fun s wr => ∃ (k cv : Nat), i ≤ k ∧ k ≤ n ∧ cv ≤ 1000000 ∧ s = .int .i64 (k : Nat) ∧ Hid (Blk wr g 92 (frRow (some ⟨a, 0, none⟩) n c cv rs) ∧ Rd wr (some ⟨a, 0, none⟩) (rgs R) ∧ advL (R.drop k) cv = tg ∧ Tch [g] w wr)) (fun s _ => n - (intOf s).toNat)
    case atStart => exact ⟨i, cov, Nat.le_refl _, Nat.le_of_lt t1, HN.out.2.2.2.1, rfl, Lib.hid ⟨HG.out.1.keep HB1.out, HG.out.2.keep HB1.out, HT.out, Tch.below HB1.out _⟩⟩
    case round =>
      obtain ⟨k, cv, hik, hkn, hcv, rfl, HJ⟩ := hrel
      obtain ⟨y0, y1, yf0, yf1⟩ := fr1 HJ.out.1
      by_cases hlt : k < n
      · obtain ⟨r2, hk⟩ : ∃ r2, R[k]? = some r2 := ⟨_, List.getElem?_eq_getElem (by rw [HN.out.1]; exact hlt)⟩
        obtain ⟨hkl, hkr⟩ := List.getElem?_eq_some_iff.1 hk
        obtain ⟨d0, d1⟩ := rgCell HJ.out.2.1 k hkl
        rw [hkr, Nat.zero_add] at d0 d1
        obtain ⟨x2, hx2⟩ : ∃ x, r2.off = x := ⟨_, rfl⟩
        rw [hx2] at d0
        have HK := Lib.hid (And.intro hk (And.intro hx2 (And.intro hik (And.intro hlt hcv))))
        clear hk hkl hkr hx2 hik hcv hkn
        by_cases hx3 : x2 ≤ cv
        · have t3 : decide (x2 ≤ cv) = true := decide_eq_true hx3
          have HS := Lib.hid (advL_step HK.out.1 (cv := cv) (by have := HK.out.2.1; omega))
          have hrs := HN.out.2.2.1.at_ HK.out.1
          have HE := Lib.hid (fun W => end_any r2.off r2.l.length r2.c r2.fin r2.A rfl hrs W)
          obtain ⟨v, hv⟩ : ∃ v, r2.fin = v := ⟨_, rfl⟩
          obtain ⟨y, hy⟩ : ∃ y, r2.l.length = y := ⟨_, rfl⟩
          rw [HK.out.2.1] at HE
          rw [hv] at HS HE hrs
          rw [hy] at HE d1
          clear hv hy
          go_wp2_with fail
          go_quiet (fail)
          have hb2 := below_drewN (Below.refl wr.heap.size wr) nq
          have HB2 := Lib.hid hb2
          clear hb2
          have HC : Hid (∀ W, Below (wr.drewN nq).heap.size (wr.drewN nq) W → W.cell? ⟨g, 0, none⟩ = some (.slice (some ⟨a, 0, none⟩) n c) ∧ W.cell? ⟨g, 1, none⟩ = some (.int .u32 (cv : Nat)) ∧ W.cell? ⟨a, k * 2, none⟩ = some (.int .u32 (x2 : Nat)) ∧ W.cell? ⟨a, k * 2 + 1, none⟩ = some (.slice r2.A y r2.c) ∧ W.frozen? ⟨g, 1, none⟩ = false) := by
            refine Lib.hid fun W hW => ?_
            have hb := below_two HB2.out hW
            exact ⟨keep_of_below hb _ _ y0, keep_of_below hb _ _ y1, keep_of_below hb _ _ d0, keep_of_below hb _ _ d1, (HJ.out.1.keep hb).frozen 1⟩
          clear y0 y1 yf0 yf1 d0 d1 t3
          generalize wr.drewN nq = w2 at *
          go_wp2_with fail
          obtain ⟨y0, y1, d0, d1, yf⟩ := HC.out w2 (Below.refl _ _)
          obtain ⟨z0, z1, e0, e1, zf⟩ := HC.out w2.drew (below_drew _)
          go_region_law (first
            | (go_simp; go_at_call 38; (with_reducible refine (HE.out _).mono ?_); rintro e w3 ⟨rfl, hb3⟩; obtain ⟨z0', z1', e0', e1', zf'⟩ := HC.out w3 (below_two (below_drew _) hb3)))
          all_goals
            have hb4 : Below wr.heap.size wr w3 := below_two (below_two HB2.out (below_drew w2)) hb3
            have HB4 := Lib.hid hb4
            have hmx : (if cv < v then (v : Int) else (cv : Int)) = ((max cv v : Nat) : Int) := by split <;> omega
            rw [hmx]
            have HM : Hid (max cv v ≤ 1000000) := Lib.hid (by have := HK.out.2.2.2.2; omega)
            have HGW : Hid (Blk (w3.setCell ⟨g, 1, none⟩ (.int .u32 ((max cv v : Nat) : Int))) g 92 (frRow (some ⟨a, 0, none⟩) n c (max cv v) rs)) := Lib.hid (fr1_set (HJ.out.1.keep hb4))
            have HRW : Hid (Rd (w3.setCell ⟨g, 1, none⟩ (.int .u32 ((max cv v : Nat) : Int))) (some ⟨a, 0, none⟩) (rgs R)) := Lib.hid ((HJ.out.2.1.keep hb4).tch (Tch.set _ _ _ _) (by have := HN.out.2.2.2.2; simp; omega))
            have HTW : Hid (Tch [g] w (w3.setCell ⟨g, 1, none⟩ (.int .u32 ((max cv v : Nat) : Int)))) := Lib.hid ((HJ.out.2.2.2.trans (Tch.below hb4 _)).trans (Tch.set _ _ _ _))
            obtain ⟨mx, hmx2⟩ : ∃ mx, max cv v = mx := ⟨_, rfl⟩
            rw [hmx2] at HM HGW HRW HTW HS
            rw [hmx2]
            have HIN : Hid (wrap64 ((k : Int) + 1) = (k : Int) + 1) := Lib.hid (w64_inc HK.out.2.2.2.1 (by have := HN.out.2.1; omega))
            clear hb3 hb4 hmx hmx2 y0 y1 d0 d1 yf z0 z1 e0 e1 zf z0' z1' e0' e1' zf' hrs HE hlt HC HB2 HB4 hx3
            generalize w3.setCell ⟨g, 1, none⟩ (.int .u32 (mx : Int)) = w4 at *
            have jw := HIN.out
            go_wp2_with fail
            go_roundw
            case rel => exact ⟨k + 1, mx, by have := HK.out.2.2.1; omega, by have := HK.out.2.2.2.1; omega, HM.out, by first | (rw [jw]; go_num) | go_num, Lib.hid ⟨HGW.out, HRW.out, by rw [← HS.out]; exact HJ.out.2.2.1, HTW.out⟩⟩
            case measure =>
              have hlt := HK.out.2.2.2.1
              first | exact t_measD hlt | (rw [jw]; exact t_measD hlt)
        · have t3 : decide (x2 ≤ cv) = false := decide_eq_false hx3
          have HE : Hid (tg = cv) := Lib.hid (by rw [← HJ.out.2.2.1, advL_stop HK.out.1 (by rw [HK.out.2.1]; exact hx3)])
          clear hx3 d1
          go_wp2_with fail
          go_quiet (fail)
          have hb2 := below_drewN (Below.refl wr.heap.size wr) nq
          have HB2 := Lib.hid hb2
          clear hb2
          generalize wr.drewN nq = w2 at *
          go_wp2_with fail
          go_end0
          exact ⟨rfl, by rw [HE.out]; exact HJ.out.1.keep HB2.out, HJ.out.2.2.2.trans (Tch.below HB2.out _)⟩
      · obtain rfl : k = n := by omega
        have HE : Hid (tg = cv) := Lib.hid (by rw [← HJ.out.2.2.1, advL_end (by rw [HN.out.1]; exact Nat.le_refl _)])
        clear hlt hik hkn hcv
        go_wp2_with fail
        go_quiet (fail)
        have hb2 := below_drewN (Below.refl wr.heap.size wr) nq
        have HB2 := Lib.hid hb2
        clear hb2
        generalize wr.drewN nq = w2 at *
        go_wp2_with fail
        go_end0
        exact ⟨rfl, by rw [HE.out]; exact HJ.out.1.keep HB2.out, HJ.out.2.2.2.trans (Tch.below HB2.out _)⟩
  · have t2 : decide (cov < x) = true := decide_eq_true (by omega)
    have HT : Hid (tg = cov) := Lib.hid (by rw [← htg, advL_stop hi (by omega)])
    clear c1 hir hil hx f0 f1 hn hn0 hs hcov hga hg hr htg hi0 hi hxc
    go_enter Tryd.func40, Tryd.ntmps40
    go_wp2_with fail
    go_quiet (fail)
    have hb1 := below_drewN (Below.refl w.heap.size w) nq
    have HB1 := Lib.hid hb1
    clear hb1 c0 g0 g1 t2
    generalize w.drewN nq = w1 at *
    go_wp2_with fail
    first | go_end0 | (refine bodyPost_ret (results_none rfl _ _ _) rfl ?_)
    exact ⟨rfl, by rw [HT.out]; exact HG.out.1.keep HB1.out, Tch.below HB1.out _⟩
end Go.Proofs.YtadblfnggmaadaaDoor
