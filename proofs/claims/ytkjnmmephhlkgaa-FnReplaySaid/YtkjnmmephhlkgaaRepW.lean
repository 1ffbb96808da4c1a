/- Walks: the library's window of bits. -/
import Derived.Test.YtkjnmmephhlkgaaRep
import Derived.Test.YtkjnmmephhlkgaaOps6
import Derived.Test.YtkjnmmephhlkgaaRow
import Derived.LoopTactic
import Derived.Outline
import Derived.Laws.BitsAllLaws
import Derived.StillTailTactics
import Derived.Deep.RegionHeld3
import Derived.Deep.RegionHeldLaw
import Derived.Test.YtkjnmmephhlkgaaProg
namespace Go.Proofs.Ytkjnmmephhlkgaa
open Go.RowKit Go.Cv
set_option maxRecDepth 100000
set_option linter.unusedVariables false
def wv (ws : List Nat) : List Value := ws.map fun x => Value.int .u64 (x : Nat)
theorem wv_length (ws : List Nat) : (wv ws).length = ws.length := by simp [wv]
theorem wv_set (ws : List Nat) (i x : Nat) : (wv ws).set i (.int .u64 (x : Nat)) = wv (ws.set i x) := by simp [wv, List.map_set]
theorem wv_at (ws : List Nat) (i : Nat) (hi : i < ws.length) : (wv ws)[i]? = some (.int .u64 (ws.getD i 0 : Nat)) := by simp [wv, List.getD, hi]
/-- The bits, in memory. -/
structure Msk (w : World) (m r c W : Nat) (ws : List Nat) : Prop where
  blk : Blk w m 47 #[.slice (some ⟨r, 0, none⟩) c c, .int .u64 (W : Nat), .int .u64 (mskOf W : Nat)]
  own : Own w 0 1 (some ⟨r, 0, none⟩) c c (wv ws)
  len : ws.length = c
  ne : m ≠ r
theorem Msk.at_ {w : World} {m r c W : Nat} {ws : List Nat} (h : Msk w m r c W ws) (i : Nat) (hi : i < c) : w.cell? ⟨r, i, none⟩ = some (.int .u64 (ws.getD i 0 : Nat)) ∧ w.frozen? ⟨r, i, none⟩ = false := by
  obtain ⟨v, h1, h2, h3⟩ := h.own.at_ i hi
  rw [wv_at _ _ (by rw [h.len]; exact hi)] at h1
  obtain rfl := Option.some.inj h1
  simp only [Nat.zero_add] at h2 h3
  exact ⟨h2, h3⟩
theorem Msk.set {w : World} {m r c W : Nat} {ws : List Nat} (h : Msk w m r c W ws) (i x : Nat) (hi : i < c) : Msk (w.setCell ⟨r, i, none⟩ (.int .u64 (x : Nat))) m r c W (ws.set i x) := by
  have h1 := h.own.set i hi (.int .u64 (x : Nat))
  rw [wv_set] at h1
  simp only [Nat.zero_add] at h1
  exact ⟨h.blk.grown (grown_set w r i _) (by simp; exact h.ne), h1, by rw [List.length_set]; exact h.len, h.ne⟩
theorem Msk.keep {w w' : World} {m r c W : Nat} {ws : List Nat} (h : Msk w m r c W ws) (hb : Below w.heap.size w w') : Msk w' m r c W ws := ⟨h.blk.keep hb, h.own.keep hb, h.len, h.ne⟩
theorem pow_wrap (p : Nat) (hp : p < 64) : IntKind.u64.wrap ((2 : Int) ^ p) = ((2 ^ p : Nat) : Int) := by
  have h : (2 ^ p : Nat) < 2 ^ 64 := Nat.pow_lt_pow_right (by omega) hp
  have e : ((2 : Int) ^ p) = ((2 ^ p : Nat) : Int) := by push_cast; rfl
  rw [e, IntKind.wrap_u64]
  generalize (2 ^ p : Nat) = z at h ⊢
  omega
theorem and_bit (x p : Nat) (hx : x < 2 ^ 64) (hp : p < 64) : (bits BinOp.and IntKind.u64 (x : Int) (IntKind.u64.wrap ((2 : Int) ^ p)) != 0) = x.testBit p := by
  have h : (2 ^ p : Nat) < 2 ^ 64 := Nat.pow_lt_pow_right (by omega) hp
  rw [pow_wrap p hp, u64_and_nat x (2 ^ p) (by omega) (by omega)]
  have e : x &&& 2 ^ p = if x.testBit p then 2 ^ p else 0 := by
    apply Nat.eq_of_testBit_eq
    intro k
    rw [Nat.testBit_and, Nat.testBit_two_pow]
    by_cases hk : p = k
    · subst hk; cases x.testBit p <;> simp
    · cases hb : x.testBit p <;> simp [hk]
  rw [e]
  have h0 : 0 < 2 ^ p := Nat.pow_pos (by omega)
  cases x.testBit p with
  | true =>
    rw [if_pos rfl]
    generalize (2 ^ p : Nat) = z at h0 ⊢
    simp
    omega
  | false => simp
theorem or_pow (x p : Nat) (hx : x < 2 ^ 64) (hp : p < 64) : bits BinOp.or IntKind.u64 (x : Int) (IntKind.u64.wrap ((2 : Int) ^ p)) = ((x ||| 2 ^ p : Nat) : Int) := by
  have h : (2 ^ p : Nat) < 2 ^ 64 := Nat.pow_lt_pow_right (by omega) hp
  rw [pow_wrap p hp, u64_or_nat x (2 ^ p) (by omega) (by omega)]
def bitOf (W : Nat) (ws : List Nat) (i : Nat) : Nat := if i < W ∧ wbit ws i = true then 1 else 0
set_option maxHeartbeats 1000000 in
theorem bit_any (m r c W i : Nat) (ws : List Nat) (hc : c = (W + 63) / 64) (hW : W ≤ 1000) (hi : i < 18446744073709551616) (hs : ∀ x ∈ ws, x < 2 ^ 64) (w : World) (h : Msk w m r c W ws) :
    Calls Try.prog 33 #[.pointer (some ⟨m, 0, none⟩), .int .u64 (i : Nat)] w fun e w' => e = .returned (.int .u64 (bitOf W ws i : Nat)) ∧ w = w' := by
  have k0 := (h.blk.cell 0).trans (rfl : _ = some (Value.slice (some ⟨r, 0, none⟩) c c))
  have k1 := (h.blk.cell 1).trans (rfl : _ = some (Value.int .u64 (W : Nat)))
  by_cases hlt : i < W
  · have t1 : decide ((W : Int) ≤ i) = false := by simp; omega
    have t1' : ¬ W ≤ i := by omega
    have t2 : i / 64 < c := by omega
    have t2' : (i : Int) / 64 < c := by omega
    have k2 := (h.at_ (i / 64) t2).1
    have hxs := getD_small ws hs (i / 64)
    have HB : Hid (wbit ws i = (ws.getD (i / 64) 0).testBit (i % 64)) := rfl
    obtain ⟨x, hx⟩ : ∃ x, ws.getD (i / 64) 0 = x := ⟨_, rfl⟩
    rw [hx] at k2 hxs HB
    have HX := Lib.hid hxs
    have HL := Lib.hid hlt
    clear h hs hc hx hxs hlt
    go_enter Try.func33, Try.ntmps33
    go_wp2_with fail
    all_goals
      go_ret
      rename_i hb
      rw [and_bit _ _ HX.out (Nat.mod_lt _ (by omega))] at hb
      refine ⟨?_, rfl⟩
      rw [bitOf, HB.out, hb]
      simp [HL.out]
  · have t1 : decide ((W : Int) ≤ i) = true := by simp; omega
    have t1' : W ≤ i := by omega
    have e : bitOf W ws i = 0 := if_neg (fun h => hlt h.1)
    rw [e]
    go_enter Try.func33, Try.ntmps33
    go_wp2_with fail
    go_ret
    exact ⟨rfl, rfl⟩
set_option maxHeartbeats 1000000 in
theorem setBit_any (m r c W i : Nat) (ws : List Nat) (hc : c = (W + 63) / 64) (hW : W ≤ 1000) (hi : i < W) (hs : ∀ x ∈ ws, x < 2 ^ 64) (w : World) (h : Msk w m r c W ws) :
    Calls Try.prog 35 #[.pointer (some ⟨m, 0, none⟩), .int .u64 (i : Nat)] w fun e w' => e = .returned (.tuple #[]) ∧ Msk w' m r c W (ws.set (i / 64) (ws.getD (i / 64) 0 ||| 2 ^ (i % 64))) ∧ Tch [r] w w' := by
  have k0 := (h.blk.cell 0).trans (rfl : _ = some (Value.slice (some ⟨r, 0, none⟩) c c))
  have k1 := (h.blk.cell 1).trans (rfl : _ = some (Value.int .u64 (W : Nat)))
  have t1 : decide ((W : Int) ≤ i) = false := by simp; omega
  have t1' : ¬ W ≤ i := by omega
  have t2 : i / 64 < c := by omega
  have t2' : (i : Int) / 64 < c := by omega
  obtain ⟨k2, f2⟩ := h.at_ (i / 64) t2
  have hxs := getD_small ws hs (i / 64)
  obtain ⟨x, hx⟩ : ∃ x, ws.getD (i / 64) 0 = x := ⟨_, rfl⟩
  rw [hx] at k2 hxs ⊢
  have e1 := or_pow x (i % 64) hxs (Nat.mod_lt _ (by omega))
  obtain ⟨y, hy⟩ : ∃ y, x ||| 2 ^ (i % 64) = y := ⟨_, rfl⟩
  rw [hy] at e1 ⊢
  have H := Lib.hid h
  clear h hs hc hx hxs hy
  go_enter Try.func35, Try.ntmps35
  go_wp2_with fail
  first | go_end0 | refine bodyPost_ret (results_none rfl _ _ _) rfl ?_
  exact ⟨rfl, H.out.set (i / 64) y t2, Tch.set _ _ _ _⟩
theorem shl_eq (x p : Nat) : IntKind.u64.wrap ((x : Int) * 2 ^ p) = ((shl64 x p : Nat) : Int) := by
  have e : (x : Int) * 2 ^ p = ((x * 2 ^ p : Nat) : Int) := by push_cast; rfl
  rw [e, IntKind.wrap_u64, shl64, Nat.shiftLeft_eq]
  generalize x * 2 ^ p = z
  omega
theorem shl_min (x n : Nat) : IntKind.u64.wrap ((x : Int) * 2 ^ min n 64) = ((shl64 x n : Nat) : Int) := by
  have e : (x : Int) * 2 ^ min n 64 = ((x * 2 ^ min n 64 : Nat) : Int) := by push_cast; rfl
  rw [e, IntKind.wrap_u64, shl64, Nat.shiftLeft_eq]
  by_cases h : n ≤ 64
  · rw [Nat.min_eq_left h]
    generalize x * 2 ^ n = z
    omega
  · rw [Nat.min_eq_right (by omega)]
    obtain ⟨d, rfl⟩ : ∃ d, n = 64 + d := ⟨n - 64, by omega⟩
    have e2 : x * 2 ^ (64 + d) = 2 ^ 64 * (x * 2 ^ d) := by rw [Nat.pow_add]; ac_rfl
    rw [e2, Nat.mul_mod_right]
    have e3 : x * 2 ^ 64 = 18446744073709551616 * x := by omega
    rw [e3]
    omega
theorem shr_eq (x p : Nat) : (x : Int) / 2 ^ p = ((x >>> p : Nat) : Int) := by rw [Nat.shiftRight_eq_div_pow]; push_cast; rfl
theorem lsh_meas (k : Nat) : (intOf (Value.int .i64 ((k : Int) - 1)) + 1).toNat < (intOf (Value.int .i64 (k : Int)) + 1).toNat := by simp [intOf]
set_option maxHeartbeats 1000000 in
theorem lsh_any (m r c W n : Nat) (ws : List Nat) (hc : c = (W + 63) / 64) (hW : W ≤ 1000) (hW0 : 1 ≤ W) (hn : n < 281474976710656) (hn0 : 0 < n) (hs : ∀ x ∈ ws, x < 2 ^ 64) (w : World) (h : Msk w m r c W ws) :
    Calls Try.prog 34 #[.pointer (some ⟨m, 0, none⟩), .int .u64 (n : Nat)] w fun e w' => e = .returned (.tuple #[]) ∧ Msk w' m r c W (lshDone ws n (mskOf W)) ∧ Tch [r] w w' := by
  have k0 := (h.blk.cell 0).trans (rfl : _ = some (Value.slice (some ⟨r, 0, none⟩) c c))
  have H := Lib.hid h
  have HS := Lib.hid hs
  have t1 : ((n : Int) == 0) = false := by simp; omega
  have t1' : ¬ n = 0 := by omega
  obtain ⟨q, hq⟩ : ∃ q, n / 64 = q := ⟨_, rfl⟩
  obtain ⟨p, hp⟩ : ∃ q, n % 64 = q := ⟨_, rfl⟩
  have eq : (n : Int) / 64 = (q : Int) := by omega
  have ep : (n : Int) % 64 = (p : Int) := by omega
  have c1 : 1 ≤ c := by omega
  have c2 : c ≤ 16 := by omega
  have hq2 : q < 4398046511104 := by omega
  have HQ := Lib.hid (And.intro hq (And.intro hp hn))
  have hp6 : p < 64 := by omega
  clear h hs hc hq hp hW hW0 hn hn0
  go_enter Try.func34, Try.ntmps34
  go_wp2_with fail
  simp only [ep]
  clear k0 ep
  go_loopw [6] (fun i wr => ∃ k : Nat, k ≤ c ∧ i = .int .i64 ((k : Int) - 1) ∧ Hid (Msk wr m r c W (lshRow ws n k)) ∧ Hid (Tch [r] w wr)) (fun i _ => (intOf i + 1).toNat)
  case atStart => exact ⟨c, Nat.le_refl _, by simp, Lib.hid (by have e := lshRow_start ws n; rw [H.out.len] at e; rw [e]; exact H.out), Lib.hid (Tch.refl _ _)⟩
  case round =>
    obtain ⟨k, hk, hi, HM, HT⟩ := hrel
    cases k with
    | zero =>
      have e : ((0 : Nat) : Int) - 1 = -1 := by omega
      rw [e] at hi
      subst hi
      obtain ⟨e, he⟩ : ∃ e, c - 1 = e := ⟨_, rfl⟩
      have ec : (c : Int) - 1 = (e : Int) := by omega
      have ec' : IntKind.i64.wrap (e : Int) = (e : Int) := by rw [IntKind.wrap_i64]; omega
      have hec : (e : Int) < c := by omega
      have hec' : e < c := by omega
      obtain ⟨k1, f1⟩ := HM.out.at_ e hec'
      have k0 : wr.drew.cell? ⟨m, 0, none⟩ = some (Value.slice (some ⟨r, 0, none⟩) c c) := (HM.out.blk.cell 0).trans rfl
      have k2 : wr.drew.cell? ⟨m, 2, none⟩ = some (Value.int .u64 (mskOf W : Nat)) := (HM.out.blk.cell 2).trans rfl
      have hs0 : ∀ x ∈ lshRow ws n 0, x < 2 ^ 64 := by
        intro x hx
        simp only [lshRow, List.mem_map, List.mem_range] at hx
        obtain ⟨j, _, rfl⟩ := hx
        simp only [Nat.not_lt_zero, if_false]
        exact lshWord_lt ws HS.out n j
      have hms : mskOf W < 2 ^ 64 := by
        have h1 : 2 ^ (64 - W % 64) ≤ 2 ^ 64 := Nat.pow_le_pow_right (by omega) (by omega)
        have h2 : 0 < 2 ^ (64 - W % 64) := Nat.pow_pos (by omega)
        unfold mskOf
        omega
      have ea := u64_and_nat ((lshRow ws n 0).getD e 0) (mskOf W) (getD_small _ hs0 e) hms
      have HD : Hid (lshDone ws n (mskOf W) = (lshRow ws n 0).set e ((lshRow ws n 0).getD e 0 &&& mskOf W)) := Lib.hid (by rw [lshDone, H.out.len, he])
      obtain ⟨x, hx⟩ : ∃ x, (lshRow ws n 0).getD e 0 = x := ⟨_, rfl⟩
      rw [hx] at k1 ea HD
      obtain ⟨mk, hmk⟩ : ∃ x, mskOf W = x := ⟨_, rfl⟩
      rw [hmk] at k2 ea
      obtain ⟨y, hy⟩ : ∃ y, x &&& mk = y := ⟨_, rfl⟩
      rw [hy] at ea
      rw [hmk, hy] at HD
      have HMK := Lib.hid hmk
      have k1 : wr.drew.cell? ⟨r, e, none⟩ = some (Value.int .u64 (x : Nat)) := k1
      have f1 : wr.drew.frozen? ⟨r, e, none⟩ = false := f1
      have HMd := Lib.hid (HM.out.keep (below_drew wr))
      have HTd := Lib.hid (HT.out.then (Tch.drew wr) (by simp))
      clear he hs0 hms hx hy hmk HM HT
      go_wp2_with fail
      refine wp_region_still_tail 18 (by kernel_rfl) (by kernel_rfl) ?_
      simp only [List.take_succ_cons, List.take_zero, List.drop_succ_cons, List.drop_zero]
      change wpStill _ _ (World.drew wr) (fun a => wpList _ _ _ _ a (World.drew wr)) _ _
      generalize World.drew wr = wd at *
      repeat still_step
      refine wpStill_nil ?_
      go_wp2_with fail
      first | go_end0 | refine bodyPost_ret (results_none rfl _ _ _) rfl ?_
      refine ⟨rfl, ?_, HTd.out.trans (Tch.set _ _ _ _)⟩
      rw [HMK.out, HD.out]
      exact HMd.out.set e y hec'
    | succ k =>
      have e : ((k + 1 : Nat) : Int) - 1 = (k : Int) := by omega
      rw [e] at hi
      subst hi
      have k0 := (HM.out.blk.cell 0).trans (rfl : _ = some (Value.slice (some ⟨r, 0, none⟩) c c))
      obtain ⟨k1, f1⟩ := HM.out.at_ k (by omega)
      rw [lshRow_getD _ _ _ _ (by rw [H.out.len]; omega), if_pos (by omega)] at k1
      obtain ⟨x0, hx0⟩ : ∃ x, ws.getD k 0 = x := ⟨_, rfl⟩
      rw [hx0] at k1
      have HX0 := Lib.hid hx0
      clear hx0 e
      by_cases hqk : q ≤ k
      · obtain ⟨d, hd⟩ : ∃ d, k = q + d := ⟨k - q, by omega⟩
        have ed : (k : Int) - q = (d : Int) := by omega
        have e64 : wrap64 ((k : Int) - q) = (d : Int) := by unfold wrap64; omega
        obtain ⟨k3, _⟩ := HM.out.at_ d (by omega)
        rw [lshRow_getD _ _ _ _ (by rw [H.out.len]; omega), if_pos (by omega)] at k3
        obtain ⟨x1, hx1⟩ : ∃ x, ws.getD d 0 = x := ⟨_, rfl⟩
        rw [hx1] at k3
        have HX1 := Lib.hid hx1
        have hdc : d < c := by omega
        have hdc' : (d : Int) < c := by omega
        have HD := Lib.hid hd
        clear hx1 hd hqk
        by_cases hd0 : d = 0
        · obtain rfl := hd0
          have s1 := shl_eq x1 p
          obtain ⟨y1, hy1⟩ : ∃ y, shl64 x1 p = y := ⟨_, rfl⟩
          have hl1 := shl64_lt x1 p
          rw [hy1] at s1 hl1
          have HY1 := Lib.hid hy1
          clear hy1
          go_wp2_with fail
          have e1 := shl_min x0 n
          obtain ⟨y0, hy0⟩ : ∃ y, shl64 x0 n = y := ⟨_, rfl⟩
          have hl0 := shl64_lt x0 n
          rw [hy0] at e1 hl0
          have e2 := u64_or_nat y0 y1 hl0 hl1
          obtain ⟨yy, hyy⟩ : ∃ y, y0 ||| y1 = y := ⟨_, rfl⟩
          rw [hyy] at e2
          have HW : Hid (lshWord ws n k = yy) := Lib.hid (by
            rw [← hyy, ← hy0, lshWord, HX0.out, HQ.out.1, HQ.out.2.1]
            rw [if_pos (by have := HD.out; omega), if_neg (by have := HD.out; omega), show k - q = 0 by have := HD.out; omega, HX1.out, HY1.out, Nat.or_zero])
          have hkc : (k : Int) < c := by omega
          have hkc' : k < c := by omega
          have k0 : wr.drew.cell? ⟨m, 0, none⟩ = some (Value.slice (some ⟨r, 0, none⟩) c c) := k0
          have k1 : wr.drew.cell? ⟨r, k, none⟩ = some (Value.int .u64 (x0 : Nat)) := k1
          have f1 : wr.drew.frozen? ⟨r, k, none⟩ = false := f1
          have HMd := Lib.hid (HM.out.keep (below_drew wr))
          have HTd := Lib.hid (HT.out.then (Tch.drew wr) (by simp))
          clear hy0 hyy hl0 hl1 HM HT
          refine wp_region_still_tail 17 (by kernel_rfl) (by kernel_rfl) ?_
          simp only [List.take_succ_cons, List.take_zero, List.drop_succ_cons, List.drop_zero]
          change wpStill _ _ (World.drew wr) (fun a => wpList _ _ _ _ a (World.drew wr)) _ _
          generalize World.drew wr = wd at *
          repeat still_step
          refine wpStill_nil ?_
          go_wp2_with fail
          go_roundw
          case rel => exact ⟨k, by omega, rfl, Lib.hid (by rw [← lshRow_step ws n k (by rw [H.out.len]; exact hkc'), HW.out]; exact HMd.out.set k yy hkc'), Lib.hid (HTd.out.trans (Tch.set _ _ _ _))⟩
          case measure => exact lsh_meas k
        · obtain ⟨d', hd'⟩ : ∃ d', d = d' + 1 := ⟨d - 1, by omega⟩
          have ed' : (d : Int) - 1 = (d' : Int) := by omega
          have t3 : decide ((1 : Int) ≤ d) = true := by simp; omega
          have t3' : 1 ≤ d := by omega
          obtain ⟨k4, _⟩ := HM.out.at_ d' (by omega)
          rw [lshRow_getD _ _ _ _ (by rw [H.out.len]; omega), if_pos (by have := HD.out; omega)] at k4
          obtain ⟨x2, hx2⟩ : ∃ x, ws.getD d' 0 = x := ⟨_, rfl⟩
          rw [hx2] at k4
          have HX2 := Lib.hid hx2
          have HD' := Lib.hid hd'
          have hdc2 : d' < c := by omega
          have hdc2' : (d' : Int) < c := by omega
          have s1 := shl_eq x1 p
          obtain ⟨y1, hy1⟩ : ∃ y, shl64 x1 p = y := ⟨_, rfl⟩
          have hl1 := shl64_lt x1 p
          rw [hy1] at s1 hl1
          have HY1 := Lib.hid hy1
          have s2 := shr_eq x2 (64 - p)
          obtain ⟨z2, hz2⟩ : ∃ y, x2 >>> (64 - p) = y := ⟨_, rfl⟩
          have hl2 : x2 >>> (64 - p) < 2 ^ 64 := Nat.lt_of_le_of_lt (Nat.shiftRight_le _ _) (by rw [← hx2]; exact getD_small ws HS.out d')
          rw [hz2] at s2 hl2
          have HZ2 := Lib.hid hz2
          have s3 := u64_or_nat y1 z2 hl1 hl2
          obtain ⟨y2, hy2⟩ : ∃ y, y1 ||| z2 = y := ⟨_, rfl⟩
          have hl3 : y1 ||| z2 < 2 ^ 64 := Nat.or_lt_two_pow hl1 hl2
          rw [hy2] at s3 hl3
          have HY2 := Lib.hid hy2
          clear hx2 hd' hd0 hy1 hz2 hy2 hl1 hl2
          go_wp2_with fail
          have e1 := shl_min x0 n
          obtain ⟨y0, hy0⟩ : ∃ y, shl64 x0 n = y := ⟨_, rfl⟩
          have hl0 := shl64_lt x0 n
          rw [hy0] at e1 hl0
          have e2 := u64_or_nat y0 y2 hl0 hl3
          obtain ⟨yy, hyy⟩ : ∃ y, y0 ||| y2 = y := ⟨_, rfl⟩
          rw [hyy] at e2
          have HW : Hid (lshWord ws n k = yy) := Lib.hid (by
            rw [← hyy, ← hy0, lshWord, HX0.out, HQ.out.1, HQ.out.2.1]
            rw [if_pos (by have := HD.out; omega), if_pos (by have := HD.out; have := HD'.out; omega), show k - q = d by have := HD.out; omega, show d - 1 = d' by have := HD'.out; omega, HX1.out, HX2.out, HY1.out, HZ2.out, HY2.out])
          have hkc : (k : Int) < c := by omega
          have hkc' : k < c := by omega
          have k0 : wr.drew.cell? ⟨m, 0, none⟩ = some (Value.slice (some ⟨r, 0, none⟩) c c) := k0
          have k1 : wr.drew.cell? ⟨r, k, none⟩ = some (Value.int .u64 (x0 : Nat)) := k1
          have f1 : wr.drew.frozen? ⟨r, k, none⟩ = false := f1
          have HMd := Lib.hid (HM.out.keep (below_drew wr))
          have HTd := Lib.hid (HT.out.then (Tch.drew wr) (by simp))
          clear hy0 hyy hl0 hl3 HM HT
          refine wp_region_still_tail 17 (by kernel_rfl) (by kernel_rfl) ?_
          simp only [List.take_succ_cons, List.take_zero, List.drop_succ_cons, List.drop_zero]
          change wpStill _ _ (World.drew wr) (fun a => wpList _ _ _ _ a (World.drew wr)) _ _
          generalize World.drew wr = wd at *
          repeat still_step
          refine wpStill_nil ?_
          go_wp2_with fail
          go_roundw
          case rel => exact ⟨k, by omega, rfl, Lib.hid (by rw [← lshRow_step ws n k (by rw [H.out.len]; exact hkc'), HW.out]; exact HMd.out.set k yy hkc'), Lib.hid (HTd.out.trans (Tch.set _ _ _ _))⟩
          case measure => exact lsh_meas k
      · have t3 : decide ((q : Int) ≤ k) = false := by simp; omega
        go_wp2_with fail
        have e1 := shl_min x0 n
        obtain ⟨y0, hy0⟩ : ∃ y, shl64 x0 n = y := ⟨_, rfl⟩
        have hl0 := shl64_lt x0 n
        rw [hy0] at e1 hl0
        have e2 : bits BinOp.or IntKind.u64 (y0 : Int) 0 = ((y0 ||| 0 : Nat) : Int) := u64_or_nat y0 0 hl0 (by omega)
        obtain ⟨yy, hyy⟩ : ∃ y, y0 ||| 0 = y := ⟨_, rfl⟩
        rw [hyy] at e2
        have HW : Hid (lshWord ws n k = yy) := Lib.hid (by
          rw [← hyy, ← hy0, lshWord, HX0.out, HQ.out.1, HQ.out.2.1]
          rw [if_neg hqk, Nat.or_zero])
        have hkc : (k : Int) < c := by omega
        have hkc' : k < c := by omega
        have k0 : wr.drew.cell? ⟨m, 0, none⟩ = some (Value.slice (some ⟨r, 0, none⟩) c c) := k0
        have k1 : wr.drew.cell? ⟨r, k, none⟩ = some (Value.int .u64 (x0 : Nat)) := k1
        have f1 : wr.drew.frozen? ⟨r, k, none⟩ = false := f1
        have HMd := Lib.hid (HM.out.keep (below_drew wr))
        have HTd := Lib.hid (HT.out.then (Tch.drew wr) (by simp))
        clear hy0 hyy hl0 HM HT
        refine wp_region_still_tail 17 (by kernel_rfl) (by kernel_rfl) ?_
        simp only [List.take_succ_cons, List.take_zero, List.drop_succ_cons, List.drop_zero]
        change wpStill _ _ (World.drew wr) (fun a => wpList _ _ _ _ a (World.drew wr)) _ _
        generalize World.drew wr = wd at *
        repeat still_step
        refine wpStill_nil ?_
        go_wp2_with fail
        go_roundw
        case rel => exact ⟨k, by omega, rfl, Lib.hid (by rw [← lshRow_step ws n k (by rw [H.out.len]; exact hkc'), HW.out]; exact HMd.out.set k yy hkc'), Lib.hid (HTd.out.trans (Tch.set _ _ _ _))⟩
        case measure => exact lsh_meas k
end Go.Proofs.Ytkjnmmephhlkgaa
