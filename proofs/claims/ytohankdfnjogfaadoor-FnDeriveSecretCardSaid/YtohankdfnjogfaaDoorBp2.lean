/- Walks: a builder's child is flushed: its length is written ahead of what it holds. -/
import Derived.Test.YtohankdfnjogfaaDoorBp1
import Derived.LoopTactic
namespace Go.Proofs.YtohankdfnjogfaaDoor
open Go.RowKit Go.Cv
set_option maxRecDepth 100000
set_option linter.unusedVariables false
theorem flush0_any (w : World) (p : Nat) (cs : Array Value) (hk : Blk w p 54 cs) (h3 : cs[3]? = some (.pointer none)) :
    Calls Tryd.prog 33 #[.pointer (some ⟨p, 0, none⟩)] w fun e w' => e = .returned (.tuple #[]) ∧ w = w' := by
  have c3 := hk.cell 3
  rw [h3] at c3
  clear hk h3
  go_enter Tryd.func33, Tryd.ntmps33
  go_wp2_with fail
  first | go_end0 | refine bodyPost_ret (results_none rfl _ _ _) rfl ?_
  exact ⟨rfl, rfl⟩
/-- The row while the length is written. -/
def midRow (l body : List UInt8) (k j : Nat) : List Value := vs l ++ ((List.replicate (k - j) (Value.int .u8 0) ++ vs (be j body.length)) ++ vs body)
theorem mid_set (l body : List UInt8) (k j : Nat) (hj : j < k) : (midRow l body k j).set (l.length + (k - 1 - j)) (.int .u8 ((body.length : Int) / 256 ^ j % 256)) = midRow l body k (j + 1) := by
  unfold midRow
  have h := set_mid (vs l) (List.replicate (k - j) (Value.int .u8 0) ++ vs (be j body.length)) (vs body) (k - 1 - j) (.int .u8 ((body.length : Int) / 256 ^ j % 256)) (by simp; omega)
  rw [vs_length] at h
  rw [h, be_step k j body.length hj]
theorem sh_next (N j : Nat) : N / 256 ^ j / 256 = N / 256 ^ (j + 1) := by rw [Nat.pow_succ, ← Nat.div_div_eq_div_mul]
theorem end_wrap (k j : Nat) (hk : k ≤ 8) (hj : j < k) : wrap64 ((k : Int) - 1 - j - 1) = (k : Int) - 1 - (j + 1 : Nat) ∧ IntKind.i64.wrap ((k : Int) - 1 - j - 1) = (k : Int) - 1 - (j + 1 : Nat) := ⟨by unfold wrap64; omega, by rw [IntKind.wrap_i64]; omega⟩
set_option maxHeartbeats 4000000 in
theorem flush_any (w : World) (p q a m c off pl : Nat) (A0 : Option Addr) (n0 c0 : Nat) (ic icq : Value) (k : Nat) (l body : List UInt8) (hk1 : 1 ≤ k) (hk8 : k ≤ 2) (hB : body.length < 256 ^ k) (hm : l.length + k + body.length = m) (hm3 : m ≤ 300000)
    (hpq : p ≠ q) (hpa : p ≠ a) (hqa : q ≠ a) (hp : Blk w p 54 (bldR A0 n0 c0 (.pointer (some ⟨q, 0, none⟩)) ic off pl)) (hq : Blk w q 54 (bldR (some ⟨a, 0, none⟩) m c (.pointer none) icq l.length k))
    (ho : Own w 0 1 (some ⟨a, 0, none⟩) m c (midRow l body k 0)) :
    Calls Tryd.prog 33 #[.pointer (some ⟨p, 0, none⟩)] w fun e w' => e = .returned (.tuple #[]) ∧ Blk w' p 54 (bldR (some ⟨a, 0, none⟩) m c (.pointer none) ic off pl) ∧ Own w' 0 1 (some ⟨a, 0, none⟩) m c (midRow l body k k) ∧ Tch [p, a] w w' := by
  have p3 := hp.cell 3
  have pf3 := hp.frozen 3
  have q0 := hq.cell 0
  have q1 := hq.cell 1
  have q4 := hq.cell 4
  have q5 := hq.cell 5
  have q6 := hq.cell 6
  simp [bldR] at p3 q0 q1 q4 q5 q6
  obtain ⟨N, hN⟩ : ∃ N, body.length = N := ⟨_, rfl⟩
  obtain ⟨L, hL⟩ : ∃ L, l.length = L := ⟨_, rfl⟩
  rw [hL] at hm q4 hq
  rw [hN] at hm
  obtain ⟨s, hs⟩ : ∃ s, L + N = s := ⟨_, rfl⟩
  have e1 : (m : Int) - k = (s : Int) := by omega
  have e2 : (s : Int) - L = (N : Int) := by omega
  have e3 : IntKind.i64.wrap (s : Int) = (s : Int) := by rw [IntKind.wrap_i64]; omega
  have e4 : IntKind.i64.wrap (N : Int) = (N : Int) := by rw [IntKind.wrap_i64]; omega
  have e5 : decide ((N : Int) < 0) = false := by simp
  have n1 : ¬ p = q := hpq
  have n2 : ¬ q = p := fun e => hpq e.symm
  have u0 := flush0_any
  have HF := Lib.hid (fun (W : World) (h : Blk W q 54 (bldR (some ⟨a, 0, none⟩) m c (.pointer none) icq L k)) => flush0_any W q _ h rfl)
  have HP := Lib.hid hp
  have HQ := Lib.hid hq
  have HO := Lib.hid ho
  clear u0 hp hq ho
  go_enter Tryd.func33, Tryd.ntmps33
  go_wp2_with fail
  refine (HF.out w HQ.out).mono ?_
  rintro e w1 ⟨rfl, rfl⟩
  go_wp2_with fail
  go_quiet (fail)
  have TS := Tch.set w p 3 (.pointer none)
  have HP1 : Hid (Blk ((w.setCell ⟨p, 3, none⟩ (.pointer none)).drewN nq) p 54 (bldR A0 n0 c0 (.pointer none) ic off pl)) := Lib.hid ((by simpa [bldR] using HP.out.set_ 3 (.pointer none) : Blk (w.setCell ⟨p, 3, none⟩ (.pointer none)) p 54 (bldR A0 n0 c0 (.pointer none) ic off pl)).keep (below_drewN (Below.refl _ _) nq))
  have HQ1 := Lib.hid ((HQ.out.tch TS (by simpa using n2)).keep (below_drewN (Below.refl _ _) nq))
  have HO1 := Lib.hid ((HO.out.tch TS (.inr ⟨a, rfl, by simpa using fun e : a = p => hpa e.symm⟩)).keep (below_drewN (Below.refl _ _) nq))
  have HT1 : Hid (Tch [p, a] w ((w.setCell ⟨p, 3, none⟩ (.pointer none)).drewN nq)) := Lib.hid ((TS.more (by simp)).trans (Tch.below (below_drewN (Below.refl _ _) nq) _))
  generalize (w.setCell ⟨p, 3, none⟩ (.pointer none)).drewN nq = W at *
  clear p3 pf3 q0 q1 q4 q5 q6 HF HP HQ HO TS
  have q1 := HQ1.out.cell 1
  have q5 := HQ1.out.cell 5
  have q6 := HQ1.out.cell 6
  simp [bldR] at q1 q5 q6
  go_wp2_with fail
  clear q1 q5 q6 e1 e2 e3 e4 e5
  go_loopw [8, 9] (fun x i wr => ∃ j : Nat, j ≤ k ∧ x = .int .i64 ((N / 256 ^ j : Nat) : Int) ∧ i = .int .i64 ((k : Int) - 1 - (j : Int)) ∧ Hid (Blk wr p 54 (bldR A0 n0 c0 (.pointer none) ic off pl)) ∧ Hid (Blk wr q 54 (bldR (some ⟨a, 0, none⟩) m c (.pointer none) icq L k)) ∧ Hid (Own wr 0 1 (some ⟨a, 0, none⟩) m c (midRow l body k j)) ∧ Hid (Tch [p, a] w wr)) (fun _ i _ => (intOf i + 1).toNat)
  case atStart => exact ⟨0, Nat.zero_le _, by simp, by simp, HP1, HQ1, HO1, HT1⟩
  case round =>
    clear HP1 HQ1 HO1 HT1
    obtain ⟨j, hj, rfl, rfl, HP2, HQ2, HO2, HT2⟩ := hrel
    by_cases hlt : j < k
    · obtain ⟨t, ht⟩ : ∃ t : Nat, k - 1 - j = t := ⟨_, rfl⟩
      have hti : (k : Int) - 1 - (j : Int) = (t : Int) := by omega
      obtain ⟨u, hu⟩ : ∃ u : Nat, L + t = u := ⟨_, rfl⟩
      have hum : u < m := by omega
      have h1 : (u : Int) < m := by omega
      have h2 : (L : Int) + t = u := by omega
      have h4 : (t : Int) - 1 = (k : Int) - 1 - ((j + 1 : Nat) : Int) := by omega
      obtain ⟨y, hy⟩ : ∃ y, N / 256 ^ j = y := ⟨_, rfl⟩
      have HPD : Hid (Blk wr.drew p 54 (bldR A0 n0 c0 (.pointer none) ic off pl)) := HP2
      have HQD : Hid (Blk wr.drew q 54 (bldR (some ⟨a, 0, none⟩) m c (.pointer none) icq L k)) := HQ2
      have HOD : Hid (Own wr.drew 0 1 (some ⟨a, 0, none⟩) m c (midRow l body k j)) := HO2
      have HTD : Hid (Tch [p, a] w wr.drew) := Lib.hid (HT2.out.trans ((Tch.drew wr).more (by simp)))
      have q1 := HQD.out.cell 1
      have q4 := HQD.out.cell 4
      simp only [bldR] at q1 q4
      have q1 : wr.drew.cell? ⟨q, 1, none⟩ = some (.slice (some ⟨a, 0, none⟩) m c) := q1
      have q4 : wr.drew.cell? ⟨q, 4, none⟩ = some (.int .i64 (L : Int)) := q4
      obtain ⟨v, hv, hc, hf⟩ := HOD.out.at_ u hum
      have hset := HOD.out.set u hum (.int .u8 ((y : Int) % 256))
      have hyy : ((y : Int) % 256) = ((body.length : Int) / 256 ^ j % 256) := by rw [hN, ← hy]; simp
      rw [hyy, ← hu, ← ht, ← hL, mid_set l body k j hlt, hL, ht, hu, ← hyy] at hset
      have hyn : (y : Int) / 256 = ((N / 256 ^ (j + 1) : Nat) : Int) := by rw [← sh_next, hy]; simp
      have hu3 : IntKind.i64.wrap (u : Int) = (u : Int) := by rw [IntKind.wrap_i64]; omega
      have ht3 : wrap64 ((t : Int) - 1) = (t : Int) - 1 := by unfold wrap64; omega
      rw [hti, hy]
      simp only [Nat.zero_add] at hc hf hset
      have HSET := Lib.hid hset
      have HYN := Lib.hid hyn
      have H4 := Lib.hid h4
      have HTI := Lib.hid hti
      clear hset hyn hyy hy ht hu hv hti h4 hum HP2 HQ2 HO2 HT2 HOD
      go_wp2_with fail
      refine wp_region_still_tail 13 (by kernel_rfl) (by kernel_rfl) ?_
      simp only [List.take_succ_cons, List.take_zero, List.drop_succ_cons, List.drop_zero]
      change wpStill _ _ (World.drew wr) (fun a => wpList _ _ _ _ a (World.drew wr)) _ _
      generalize World.drew wr = wd at *
      repeat still_step
      refine wpStill_nil ?_
      go_wp2_with fail
      go_roundw
      case rel => exact ⟨j + 1, hlt, by rw [HYN.out], by rw [H4.out], Lib.hid (HPD.out.tch (Tch.set wd a u _) (by simpa using hpa)), Lib.hid (HQD.out.tch (Tch.set wd a u _) (by simpa using hqa)), HSET, Lib.hid (HTD.out.trans ((Tch.set wd a u _).more (by simp)))⟩
      case measure =>
        clear ht3 hu3 h2 h1
        simp [intOf]
    · obtain rfl : j = k := Nat.le_antisymm hj (Nat.le_of_not_lt hlt)
      have hz : N / 256 ^ j = 0 := Nat.div_eq_of_lt (by rw [← hN]; exact hB)
      have hi : (j : Int) - 1 - (j : Int) = -1 := by omega
      have p2 := HP2.out.cell 2
      have pf1 := HP2.out.frozen 1
      have p1 := HP2.out.cell 1
      have q1 := HQ2.out.cell 1
      simp [bldR] at p1 p2 q1
      rw [hz, hi]
      clear hz hi hlt
      go_wp2_with fail
      first
        | go_quiet (fail)
        | fail "no"
      have hbq : Below wr.heap.size wr (wr.drewN nq) := below_drewN (Below.refl _ _) nq
      have HPX : Hid (Blk (wr.drewN nq) p 54 (bldR A0 n0 c0 (.pointer none) ic off pl)) := Lib.hid (HP2.out.keep hbq)
      have HOX := Lib.hid (HO2.out.keep hbq)
      have HTX := Lib.hid (HT2.out.trans (Tch.below hbq _))
      have HQX := Lib.hid (HQ2.out.keep hbq)
      generalize wr.drewN nq = wx at *
      clear p1 p2 q1 pf1 hbq HP2 HQ2 HO2 HT2
      have p1 := HPX.out.cell 1
      have pf1 := HPX.out.frozen 1
      have q1 := HQX.out.cell 1
      simp [bldR] at p1 q1
      go_wp2_with fail
      go_end0
      exact ⟨rfl, by simpa [bldR] using HPX.out.set_ 1 (.slice (some ⟨a, 0, none⟩) m c), HOX.out.tch (Tch.set _ p 1 _) (.inr ⟨a, rfl, by simpa using fun e : a = p => hpa e.symm⟩), HTX.out.trans ((Tch.set _ p 1 _).more (by simp))⟩
end Go.Proofs.YtohankdfnjogfaaDoor
