/- Walks: the library's detector. -/
import Derived.Test.YtkjnmmephhlkgaaRepW
namespace Go.Proofs.Ytkjnmmephhlkgaa
open Go.RowKit Go.Cv
set_option maxRecDepth 100000
set_option linter.unusedVariables false
theorem Msk.tch {w w' : World} {m r c W : Nat} {ws : List Nat} (h : Msk w m r c W ws) {L : List Nat} (ht : Tch L w w') (hm : m ∉ L) (hr : r ∉ L) : Msk w' m r c W ws :=
  ⟨h.blk.tch ht hm, h.own.tch ht (.inr ⟨r, rfl, hr⟩), h.len, h.ne⟩
/-- The detector, in memory. -/
structure Det (w : World) (d m r c W M l : Nat) (ws : List Nat) : Prop where
  blk : Blk w d 45 #[.int .u64 (l : Nat), .int .u64 (M : Nat), .int .u64 (W : Nat), .pointer (some ⟨m, 0, none⟩)]
  msk : Msk w m r c W ws
  dm : d ≠ m
  dr : d ≠ r
theorem Det.keep {w w' : World} {d m r c W M l : Nat} {ws : List Nat} (h : Det w d m r c W M l ws) (hb : Below w.heap.size w w') : Det w' d m r c W M l ws := ⟨h.blk.keep hb, h.msk.keep hb, h.dm, h.dr⟩
theorem Det.tch {w w' : World} {d m r c W M l : Nat} {ws : List Nat} (h : Det w d m r c W M l ws) {L : List Nat} (ht : Tch L w w') (hd : d ∉ L) (hm : m ∉ L) (hr : r ∉ L) : Det w' d m r c W M l ws := ⟨h.blk.tch ht hd, h.msk.tch ht hm hr, h.dm, h.dr⟩
theorem Det.cells {w : World} {d m r c W M l : Nat} {ws : List Nat} (h : Det w d m r c W M l ws) :
    w.cell? ⟨d, 0, none⟩ = some (.int .u64 (l : Nat)) ∧ w.cell? ⟨d, 1, none⟩ = some (.int .u64 (M : Nat)) ∧ w.cell? ⟨d, 2, none⟩ = some (.int .u64 (W : Nat)) ∧ w.cell? ⟨d, 3, none⟩ = some (.pointer (some ⟨m, 0, none⟩)) :=
  ⟨(h.blk.cell 0).trans rfl, (h.blk.cell 1).trans rfl, (h.blk.cell 2).trans rfl, (h.blk.cell 3).trans rfl⟩
/-- The sizes that the law speaks of. -/
structure Sized (W M c : Nat) : Prop where
  c : c = (W + 63) / 64
  W1 : 1 ≤ W
  W2 : W ≤ 1000
  W3 : W % 64 ≤ 32
  M1 : W ≤ M
  M2 : M < 281474976710656
set_option maxHeartbeats 1000000 in
theorem check_any (d m r c W M l n : Nat) (ws : List Nat) (hz : Sized W M c) (hl : l ≤ M) (hn : n < 18446744073709551616) (hs : ∀ x ∈ ws, x < 2 ^ 64) (w : World) (h : Det w d m r c W M l ws) :
    Calls Try.prog 30 #[.pointer (some ⟨d, 0, none⟩), .int .u64 (n : Nat)] w fun e w' => e = .returned (.bool (frI W M l ws n)) ∧ Below w.heap.size w w' := by
  obtain ⟨k0, k1, k2, k3⟩ := h.cells
  have hM2 := hz.M2
  have hW2 := hz.W2
  by_cases h1 : M < n
  · have t1 : decide ((M : Int) < n) = true := by simp; omega
    have e : frI W M l ws n = false := by unfold frI; rw [if_pos h1]
    rw [e]
    go_enter Try.func30, Try.ntmps30
    go_wp2_with fail
    go_ret
    exact ⟨rfl, Below.refl _ _⟩
  have t1 : decide ((M : Int) < n) = false := by simp; omega
  have t1' : ¬ M < n := h1
  by_cases h2 : n ≤ l
  · have t2 : decide ((n : Int) ≤ l) = true := by simp; omega
    have t2' : n ≤ l := h2
    have e4 : IntKind.u64.wrap ((W : Int) + n) = ((W + n : Nat) : Int) := by rw [IntKind.wrap_u64]; omega
    obtain ⟨s, hs4⟩ : ∃ s, W + n = s := ⟨_, rfl⟩
    rw [hs4] at e4
    have HB : Hid (∀ w', Below w.heap.size w w' → Det w' d m r c W M l ws) := Lib.hid (fun w' hb => h.keep hb)
    by_cases h3 : W + n ≤ l
    · have t3 : decide ((s : Int) ≤ l) = true := by simp; omega
      have t3' : s ≤ l := by omega
      have e : frI W M l ws n = false := by unfold frI; rw [if_neg h1, if_pos h2, if_pos h3]
      rw [e]
      clear h hz hs hs4 h1 h2 h3 hn hl
      go_enter Try.func30, Try.ntmps30
      go_wp2_with fail
      go_quiet (fail)
      go_wp2_with fail
      go_ret
      exact ⟨rfl, below_drewN (Below.refl _ _) _⟩
    · have t3 : decide ((s : Int) ≤ l) = false := by simp; omega
      have t3' : ¬ s ≤ l := by omega
      have e : frI W M l ws n = !wbit ws (l - n) := by unfold frI; rw [if_neg h1, if_pos h2, if_neg h3]
      rw [e]
      obtain ⟨i, hi⟩ : ∃ i, l - n = i := ⟨_, rfl⟩
      have ei : (l : Int) - n = (i : Int) := by omega
      have ei' : IntKind.u64.wrap ((l : Int) - n) = (i : Int) := by rw [IntKind.wrap_u64]; omega
      have ei2 : IntKind.u64.wrap (i : Int) = (i : Int) := by rw [IntKind.wrap_u64]; omega
      rw [hi]
      have hbt : bitOf W ws i = if wbit ws i = true then 1 else 0 := by
        unfold bitOf
        have : i < W := by omega
        simp [this]
      have HC : Hid (∀ w', Below w.heap.size w w' → Calls Try.prog 33 #[.pointer (some ⟨m, 0, none⟩), .int .u64 (i : Nat)] w' fun e w'' => e = .returned (.int .u64 (bitOf W ws i : Nat)) ∧ w' = w'') := Lib.hid (fun w' hb => bit_any m r c W i ws hz.c hz.W2 (by omega) hs w' (h.keep hb).msk)
      rw [hbt] at HC
      cases hb : wbit ws i with
      | true =>
        rw [hb] at HC
        simp only [if_true] at HC
        clear h hz hs hs4 h1 h2 h3 hn hl hi hb hbt
        go_enter Try.func30, Try.ntmps30
        go_wp2_with fail
        go_quiet (fail)
        go_wp2_with fail
        have hbd := below_drewN (Below.refl w.heap.size w) nq
        generalize w.drewN nq = w2 at *
        go_region_held_law (fun w' => w'.cell? ⟨d, 0, none⟩ = some (.int .u64 (l : Nat)) ∧ w'.cell? ⟨d, 3, none⟩ = some (.pointer (some ⟨m, 0, none⟩))) (exact ⟨(HB.out _ (by first | exact below_two hbd (below_drew _) | exact hbd)).cells.1, (HB.out _ (by first | exact below_two hbd (below_drew _) | exact hbd)).cells.2.2.2⟩)
          (first | (go_at_call 33; with_reducible refine (HC.out _ (below_two hbd (below_drew _))).mono ?_; rintro e w' ⟨rfl, rfl⟩))
        all_goals
          go_wp2_with fail
          go_ret
          exact ⟨rfl, by first | exact below_two hbd (below_drew _) | exact hbd⟩
      | false =>
        rw [hb] at HC
        simp only [Bool.false_eq_true, if_false] at HC
        clear h hz hs hs4 h1 h2 h3 hn hl hi hb hbt
        go_enter Try.func30, Try.ntmps30
        go_wp2_with fail
        go_quiet (fail)
        go_wp2_with fail
        have hbd := below_drewN (Below.refl w.heap.size w) nq
        generalize w.drewN nq = w2 at *
        go_region_held_law (fun w' => w'.cell? ⟨d, 0, none⟩ = some (.int .u64 (l : Nat)) ∧ w'.cell? ⟨d, 3, none⟩ = some (.pointer (some ⟨m, 0, none⟩))) (exact ⟨(HB.out _ (by first | exact below_two hbd (below_drew _) | exact hbd)).cells.1, (HB.out _ (by first | exact below_two hbd (below_drew _) | exact hbd)).cells.2.2.2⟩)
          (first | (go_at_call 33; with_reducible refine (HC.out _ (below_two hbd (below_drew _))).mono ?_; rintro e w' ⟨rfl, rfl⟩))
        all_goals
          go_wp2_with fail
          go_ret
          exact ⟨rfl, by first | exact below_two hbd (below_drew _) | exact hbd⟩
  · have t2 : decide ((n : Int) ≤ l) = false := by simp; omega
    have t2' : ¬ n ≤ l := h2
    have e : frI W M l ws n = true := by unfold frI; rw [if_neg h1, if_neg h2]
    rw [e]
    clear h hz hs h1 h2
    go_enter Try.func30, Try.ntmps30
    go_wp2_with fail
    go_ret
    exact ⟨rfl, Below.refl _ _⟩
set_option maxHeartbeats 1000000 in
/-- A number that is not above the latest. -/
theorem accept_old (d m r c W M n l i : Nat) (ws : List Nat) (hz : Sized W M c) (hs : ∀ x ∈ ws, x < 2 ^ 64) (hl : l ≤ M) (hn : n ≤ l) (hi : l - n = i) (hiW : i < W) (w : World) (h : Det w d m r c W M l ws) :
    Calls Try.prog 29 #[.pointer (some ⟨d, 0, none⟩), .int .u64 (n : Nat)] w fun e w' => (∃ b, e = .returned (.bool b)) ∧ Det w' d m r c W M l (ws.set (i / 64) (ws.getD (i / 64) 0 ||| 2 ^ (i % 64))) ∧ Tch [d, m, r] w w' := by
  obtain ⟨k0, k1, k2, k3⟩ := h.cells
  have hM2 := hz.M2
  have hM1 := hz.M1
  have HDT := Lib.hid h
  have HC0 : Hid (∀ w', Det w' d m r c W M l ws → Calls Try.prog 33 #[.pointer (some ⟨m, 0, none⟩), .int .u64 0] w' fun e w'' => e = .returned (.int .u64 (bitOf W ws 0 : Nat)) ∧ w' = w'') := Lib.hid (fun w' hb => bit_any m r c W 0 ws hz.c hz.W2 (by omega) hs w' hb.msk)
  have HSB : Hid (∀ w', Det w' d m r c W M l ws → Calls Try.prog 35 #[.pointer (some ⟨m, 0, none⟩), .int .u64 (i : Nat)] w' fun e w'' => e = .returned (.tuple #[]) ∧ Msk w'' m r c W (ws.set (i / 64) (ws.getD (i / 64) 0 ||| 2 ^ (i % 64))) ∧ Tch [r] w' w'') := Lib.hid (fun w' hb => setBit_any m r c W i ws hz.c hz.W2 hiW hs w' hb.msk)
  have t2 : decide ((l : Int) < n) = false := by simp; omega
  have t2' : ¬ l < n := by omega
  have e2 : (i : Int) % M = i := Int.emod_eq_of_lt (by omega) (by omega)
  have e3 : (i : Int).tmod M = i := by rw [Int.tmod_eq_emod_of_nonneg (by omega)]; exact e2
  have e4 : IntKind.u64.wrap (i : Int) = (i : Int) := by rw [IntKind.wrap_u64]; omega
  have m0 : ((M : Int) == 0) = false := by have := hz.W1; simp; omega
  have m0' : ¬ M = 0 := by have := hz.W1; omega
  have m1 : (0 : Int) < M := by omega
  have e5 : (l : Int) - n = (i : Int) := by omega
  have e1 : IntKind.u64.wrap ((l : Int) - n) = (i : Int) := by rw [e5]; exact e4
  clear h hz hs hi hiW hM1 hn hl
  by_cases h0 : n = 0
  · have z1 : ((n : Int) == 0) = true := by simp; exact h0
    clear h0
    by_cases hl0 : l = 0
    · have z2 : ((l : Int) == 0) = true := by simp; exact hl0
      clear hl0
      go_enter Try.func29, Try.ntmps29
      go_wp2_with fail
      refine (HC0.out _ HDT.out).mono ?_
      rintro e w' ⟨rfl, rfl⟩
      go_wp2_with fail
      go_quiet (fail)
      go_wp2_with fail
      have hbd := below_drewN (Below.refl w.heap.size w) nq
      generalize w.drewN nq = w2 at *
      refine (HSB.out w2 (HDT.out.keep hbd)).mono ?_
      rintro e w3 ⟨rfl, h3, ht3⟩
      go_wp2_with fail
      go_ret
      exact ⟨⟨_, rfl⟩, ⟨(HDT.out.keep hbd).blk.tch ht3 (by simp; exact HDT.out.dr), h3, HDT.out.dm, HDT.out.dr⟩, (Tch.below hbd _).trans (ht3.more (by simp))⟩
    · have z2 : ((l : Int) == 0) = false := by simp; omega
      clear hl0
      go_enter Try.func29, Try.ntmps29
      go_wp2_with fail
      go_quiet (fail)
      go_wp2_with fail
      have hbd := below_drewN (Below.refl w.heap.size w) nq
      generalize w.drewN nq = w2 at *
      refine (HSB.out w2 (HDT.out.keep hbd)).mono ?_
      rintro e w3 ⟨rfl, h3, ht3⟩
      go_wp2_with fail
      go_ret
      exact ⟨⟨_, rfl⟩, ⟨(HDT.out.keep hbd).blk.tch ht3 (by simp; exact HDT.out.dr), h3, HDT.out.dm, HDT.out.dr⟩, (Tch.below hbd _).trans (ht3.more (by simp))⟩
  · have z2 : ((n : Int) == 0) = false := by simp; omega
    clear h0
    go_enter Try.func29, Try.ntmps29
    go_wp2_with fail
    go_quiet (fail)
    go_wp2_with fail
    have hbd := below_drewN (Below.refl w.heap.size w) nq
    generalize w.drewN nq = w2 at *
    refine (HSB.out w2 (HDT.out.keep hbd)).mono ?_
    rintro e w3 ⟨rfl, h3, ht3⟩
    go_wp2_with fail
    go_ret
    exact ⟨⟨_, rfl⟩, ⟨(HDT.out.keep hbd).blk.tch ht3 (by simp; exact HDT.out.dr), h3, HDT.out.dm, HDT.out.dr⟩, (Tch.below hbd _).trans (ht3.more (by simp))⟩
set_option maxHeartbeats 1000000 in
/-- A number above the latest. -/
theorem accept_new (d m r c W M n l k : Nat) (ws : List Nat) (hz : Sized W M c) (hs : ∀ x ∈ ws, x < 2 ^ 64) (hn : n ≤ M) (hl : l < n) (hk : n - l = k) (w : World) (h : Det w d m r c W M l ws) :
    Calls Try.prog 29 #[.pointer (some ⟨d, 0, none⟩), .int .u64 (n : Nat)] w fun e w' => (∃ b, e = .returned (.bool b)) ∧ Det w' d m r c W M n ((lshDone ws k (mskOf W)).set (0 / 64) ((lshDone ws k (mskOf W)).getD (0 / 64) 0 ||| 2 ^ (0 % 64))) ∧ Tch [d, m, r] w w' := by
  obtain ⟨k0, k1, k2, k3⟩ := h.cells
  have hM2 := hz.M2
  have HDT := Lib.hid h
  have HLS : Hid (∀ w', Det w' d m r c W M l ws → Calls Try.prog 34 #[.pointer (some ⟨m, 0, none⟩), .int .u64 (k : Nat)] w' fun e w'' => e = .returned (.tuple #[]) ∧ Msk w'' m r c W (lshDone ws k (mskOf W)) ∧ Tch [r] w' w'') := Lib.hid (fun w' hb => lsh_any m r c W k ws hz.c hz.W2 hz.W1 (by omega) (by omega) hs w' hb.msk)
  have HSB : Hid (∀ w', Msk w' m r c W (lshDone ws k (mskOf W)) → Calls Try.prog 35 #[.pointer (some ⟨m, 0, none⟩), .int .u64 ((0 : Nat) : Nat)] w' fun e w'' => e = .returned (.tuple #[]) ∧ Msk w'' m r c W ((lshDone ws k (mskOf W)).set (0 / 64) ((lshDone ws k (mskOf W)).getD (0 / 64) 0 ||| 2 ^ (0 % 64))) ∧ Tch [r] w' w'') := Lib.hid (fun w' hb => setBit_any m r c W 0 _ hz.c hz.W2 hz.W1 (lshDone_small ws hs k _) w' hb)
  have t2 : decide ((l : Int) < n) = true := by simp; omega
  have t2' : l < n := hl
  have z2 : ((n : Int) == 0) = false := by simp; omega
  have e1 : IntKind.u64.wrap ((n : Int) - l) = (k : Int) := by rw [IntKind.wrap_u64]; omega
  have e5 : (n : Int) - l = (k : Int) := by omega
  have e4 : IntKind.u64.wrap (k : Int) = (k : Int) := by rw [IntKind.wrap_u64]; omega
  have m0 : ((M : Int) == 0) = false := by have := hz.W1; simp; omega
  have m0' : ¬ M = 0 := by have := hz.W1; omega
  have m1 : (0 : Int) < M := by omega
  have q1 : IntKind.u64.wrap (0 : Int) = 0 := by decide
  have q2 : (0 : Int).tmod M = 0 := Int.zero_tmod _
  have q3 : (0 : Int) % M = 0 := Int.zero_emod _
  clear h hz hs hk
  go_enter Try.func29, Try.ntmps29
  go_wp2_with fail
  go_region_held_law (fun w' => w'.cell? ⟨d, 0, none⟩ = some (.int .u64 (l : Nat)) ∧ w'.cell? ⟨d, 3, none⟩ = some (.pointer (some ⟨m, 0, none⟩))) (first | exact ⟨D3.blk.cell 0 |>.trans rfl, D3.blk.cell 3 |>.trans rfl⟩ | exact ⟨(HDT.out.keep (below_drew _)).cells.1, (HDT.out.keep (below_drew _)).cells.2.2.2⟩)
    (first | (go_at_call 34; with_reducible refine (HLS.out _ (HDT.out.keep (below_drew _))).mono ?_; rintro e w3 ⟨rfl, h3, ht3⟩; have D3 : Det w3 d m r c W M l (lshDone ws k (mskOf W)) := ⟨(HDT.out.keep (below_drew _)).blk.tch ht3 (by simp; exact HDT.out.dr), h3, HDT.out.dm, HDT.out.dr⟩))
  have HD3 := Lib.hid D3
  have HT3 := Lib.hid ((Tch.below (below_drew w) [r]).trans ht3)
  have TS := Tch.set w3 d 0 (.int .u64 (n : Nat))
  have HD4 : Hid (Det (w3.setCell ⟨d, 0, none⟩ (.int .u64 (n : Nat))) d m r c W M n (lshDone ws k (mskOf W))) := Lib.hid ⟨by have := HD3.out.blk.set_ 0 (.int .u64 (n : Nat)); simpa using this, HD3.out.msk.tch TS (by simp; exact fun e => HD3.out.dm e.symm) (by simp; exact fun e => HD3.out.dr e.symm), HD3.out.dm, HD3.out.dr⟩
  have f0 := HD3.out.blk.frozen 0
  clear D3 h3 ht3 k0 k1 k2 k3
  obtain ⟨k0, k1, k2, k3⟩ := HD3.out.cells
  go_wp2_with fail
  clear k0 k1 k2 k3 f0 TS
  generalize hW : w3.setCell ⟨d, 0, none⟩ (.int .u64 (n : Nat)) = w4 at *
  have HT4 : Hid (Tch [d, r] w w4) := Lib.hid (by rw [← hW]; exact (HT3.out.more (by simp)).trans ((Tch.set w3 d 0 _).more (by simp)))
  clear hW
  obtain ⟨k0, k1, k2, k3⟩ := HD4.out.cells
  go_quiet (fail)
  go_wp2_with fail
  have hbd := below_drewN (Below.refl w4.heap.size w4) nq
  generalize w4.drewN nq = w5 at *
  refine (HSB.out w5 (HD4.out.keep hbd).msk).mono ?_
  rintro e w6 ⟨rfl, h6, ht6⟩
  go_wp2_with fail
  go_ret
  exact ⟨⟨_, rfl⟩, ⟨(HD4.out.keep hbd).blk.tch ht6 (by simp; exact HD4.out.dr), h6, HD4.out.dm, HD4.out.dr⟩, ((HT4.out.more (by simp)).then (Tch.below hbd []) (by simp)).trans (ht6.more (by simp))⟩
theorem accept_any (d m r c W M n : Nat) (s : Nat × List Nat) (ws : List Nat) (hz : Sized W M c) (hr : Rep W ws s) (hl : s.1 ≤ M) (hn : n ≤ M) (hf : fr W M s n = true) (w : World) (h : Det w d m r c W M s.1 ws) :
    Calls Try.prog 29 #[.pointer (some ⟨d, 0, none⟩), .int .u64 (n : Nat)] w fun e w' => (∃ b, e = .returned (.bool b)) ∧ Det w' d m r c W M (tk s n).1 (tkI W s.1 ws n) ∧ Tch [d, m, r] w w' := by
  obtain ⟨hrep, hlat, hd⟩ := rep_take hr hz.W1 hz.W3 n hf
  rw [hlat] at hd ⊢
  by_cases h1 : s.1 < n
  · have e : tkI W s.1 ws n = (lshDone ws (n - s.1) (mskOf W)).set (0 / 64) ((lshDone ws (n - s.1) (mskOf W)).getD (0 / 64) 0 ||| 2 ^ (0 % 64)) := by
      unfold tkI; simp [h1]
    rw [if_pos h1, e]
    exact accept_new d m r c W M n s.1 _ ws hz hr.small hn h1 rfl w h
  · have e : tkI W s.1 ws n = ws.set ((s.1 - n) / 64) (ws.getD ((s.1 - n) / 64) 0 ||| 2 ^ ((s.1 - n) % 64)) := by
      unfold tkI; simp [h1]
    rw [if_neg h1] at hd ⊢
    rw [e]
    exact accept_old d m r c W M n s.1 _ ws hz hr.small hl (by omega) rfl hd w h
end Go.Proofs.Ytkjnmmephhlkgaa
