/- Walks: the chain of a cipher's blocks is undone. -/
import Derived.Test.YtpedkkmoplbdhaaDoorBd
namespace Go.Proofs.YtpedkkmoplbdhaaDoor
open Go.RowKit Go.Cv
set_option maxRecDepth 100000
set_option linter.unusedVariables false
def ivAt (iv s : List UInt8) : Nat → List UInt8
  | 0 => iv
  | m + 1 => (s.drop (16 * m)).take 16
theorem ivAt_step (iv s : List UInt8) (m : Nat) : ivAt (s.take 16) (s.drop 16) m = ivAt iv s (m + 1) := by
  cases m with
  | zero => rfl
  | succ m => simp only [ivAt, List.drop_drop]; congr 2; omega
theorem cSho_snoc (key : List UInt8) (m : Nat) (iv s : List UInt8) : cSho key (m + 1) iv s = cSho key m iv s ++ xorL (tDec key ((s.drop (16 * m)).take 16)) (ivAt iv s m) 16 := by
  induction m generalizing iv s with
  | zero => simp only [cSho, List.append_nil, List.nil_append, Nat.mul_zero, List.drop_zero, ivAt]
  | succ m ih =>
    rw [cSho, ih, cSho, List.append_assoc, ivAt_step iv s m, List.drop_drop, show 16 + 16 * m = 16 * (m + 1) by omega]
theorem ivAt_length (iv s : List UInt8) (n m : Nat) (hiv : iv.length = 16) (hs : s.length = 16 * n) (hm : m ≤ n) : (ivAt iv s m).length = 16 := by
  cases m with
  | zero => exact hiv
  | succ m => simp only [ivAt, List.length_take, List.length_drop]; omega
theorem meas16 {e n : Nat} (h : e < n) : n - (intOf (Value.int .i64 ((e + 16 : Nat) : Int))).toNat < n - (intOf (Value.int .i64 (e : Int))).toNat := by simp [intOf]; omega
set_option maxHeartbeats 2000000 in
theorem t_unchain (key iv s : List UInt8) (n : Nat) (hiv : iv.length = 16) (hs : s.length = 16 * n) (hn3 : n ≤ 1000) (w : World) :
    Calls Tryd.prog 130 #[.string (S key), .string (S iv), .string (S s)] w fun e w' => e = .returned (.string (S (cSho key n iv s))) ∧ Below w.heap.size w w' := by
  have HDE := Lib.hid (fun b hb W => t_dec key b hb W)
  obtain ⟨N, hN⟩ : ∃ N, 16 * n = N := ⟨_, rfl⟩
  rw [hN] at hs
  have hz : (S s).size = N := by rw [S_size, hs]
  have HN := Lib.hid (And.intro hN (And.intro hs (And.intro hn3 hiv)))
  clear hiv hn3 hN hs
  go_enter Tryd.func130, Tryd.ntmps130
  go_wp2_with fail
  refine upon_make 51 5 (.int .u8 0) 1 Tryd.underlying51 t_u8info rfl 0 N rfl rfl (Nat.zero_le _) (by have := HN.out; omega) (by have := HN.out; simp only [maxLen]; omega) ?_
  intro w1 hown hb hsz
  obtain ⟨p, hp⟩ : ∃ p, w.heap.size = p := ⟨_, rfl⟩
  rw [hp] at hown hb hsz ⊢
  have HO0 : Hid (Own w1 p 1 (some ⟨p, 0, none⟩) 0 N (vs (cSho key 0 iv s))) := Lib.hid hown
  have HB0 := Lib.hid hb
  have HZ0 : Hid (p < w1.heap.size) := Lib.hid (by omega)
  have HP := Lib.hid hp
  clear hown hb hsz hp
  go_wp2_with fail
  go_loopw [1, 7, 8] (fun v o i wr => ∃ j e A c, j ≤ n ∧ 16 * j = e ∧ v = .string (S (ivAt iv s j)) ∧ o = .slice A e c ∧ i = .int .i64 (e : Nat) ∧ Hid (Own wr p 1 A e c (vs (cSho key j iv s)) ∧ Below p w wr ∧ p < wr.heap.size ∧ Hi p A)) (fun _ _ i _ => N - (intOf i).toNat)
  case atStart => exact ⟨0, 0, _, N, Nat.zero_le _, rfl, rfl, rfl, rfl, Lib.hid ⟨HO0.out, HB0.out, HZ0.out, .inr ⟨_, rfl, Nat.le_refl _⟩⟩⟩
  case round =>
    obtain ⟨j, e, A, c, hj, he, rfl, rfl, rfl, HJ⟩ := hrel
    obtain ⟨f, hf⟩ : ∃ f, e + 16 = f := ⟨_, rfl⟩
    have g0 : (e : Int) + 16 = (f : Int) := by omega
    have Hg1 : Hid (wrap64 (f : Int) = (f : Int)) := Lib.hid (by have := HN.out; unfold wrap64; omega)
    have Hg2 : Hid (IntKind.i64.wrap (f : Int) = (f : Int)) := Lib.hid (i64_nat f (by have := HN.out; omega))
    obtain ⟨vj, hvj⟩ : ∃ v, ivAt iv s j = v := ⟨_, rfl⟩
    rw [hvj]
    have hvl : vj.length = 16 := by rw [← hvj]; exact ivAt_length iv s n j HN.out.2.2.2 (by rw [HN.out.2.1, HN.out.1]) hj
    have hzv : (S vj).size = 16 := by rw [S_size, hvl]
    by_cases hlt : j < n
    · have t0 : decide ((f : Int) ≤ N) = true := decide_eq_true (by have := HN.out.1; omega)
      have t1 : (f : Int) ≤ N := by have := HN.out.1; omega
      have t2 : e ≤ f := by omega
      obtain ⟨bk, hbk⟩ : ∃ b, (s.drop e).take 16 = b := ⟨_, rfl⟩
      have hex : (S s).extract e f = S bk := by
        rw [S_extract, ← hbk, ← hf, List.take_add, List.drop_append_of_le_length (by rw [List.length_take]; have := HN.out; omega), List.drop_of_length_le (by rw [List.length_take]; omega), List.nil_append]
      have hbl : bk.length = 16 := by rw [← hbk, List.length_take, List.length_drop]; have := HN.out; omega
      have C1 := Lib.hid (fun W => HDE.out bk hbl W)
      obtain ⟨D, hD⟩ : ∃ D, tDec key bk = D := ⟨_, rfl⟩
      have hDl : D.length = 16 := by rw [← hD]; exact tDec_length _ _
      have hzd : (S D).size = 16 := by rw [S_size, hDl]
      rw [hD] at C1
      have HST : Hid (cSho key (j + 1) iv s = cSho key j iv s ++ xorL D vj 16) := Lib.hid (by rw [cSho_snoc, he, hbk, hD, hvj])
      have HIV : Hid (ivAt iv s (j + 1) = bk) := Lib.hid (by simp only [ivAt]; rw [he, hbk])
      obtain ⟨O, hO⟩ : ∃ O, cSho key j iv s = O := ⟨_, rfl⟩
      rw [hO] at HST
      have HJO : Hid (Own wr p 1 A e c (vs O)) := Lib.hid (by rw [← hO]; exact HJ.out.1)
      have HJB := Lib.hid HJ.out.2
      have HEF := Lib.hid (And.intro he (And.intro hf (And.intro hDl hvl)))
      clear hbk hbl hD hDl hO HJ hvj hvl he hf hj
      have g1 := Hg1.out
      have g2 := Hg2.out
      go_wp2_with fail
      refine (C1.out wr).mono ?_
      rintro e' w2 ⟨rfl, hb2⟩
      have HO2 := Lib.hid (HJO.out.keep hb2)
      have HB2 : Hid (Below p w w2) := Lib.hid (HJB.out.1.trans (hb2.mono (Nat.le_of_lt HJB.out.2.1)))
      have HZ2 : Hid (p < w2.heap.size) := Lib.hid (Nat.lt_of_lt_of_le HJB.out.2.1 hb2.size)
      have HI2 := Lib.hid HJB.out.2.2
      clear hb2 HJO HJB C1 g1 g2
      go_wp2_with fail
      go_loopw [7, 10] (fun o i wq => ∃ k L A' c', k ≤ 16 ∧ e + k = L ∧ o = .slice A' L c' ∧ i = .int .i64 (k : Nat) ∧ Hid (Own wq p 1 A' L c' (vs (O ++ xorL D vj k)) ∧ Below p w wq ∧ p < wq.heap.size ∧ Hi p A')) (fun _ i _ => 16 - (intOf i).toNat)
      case atStart => exact ⟨0, e, A, c, Nat.zero_le _, rfl, rfl, rfl, Lib.hid ⟨by rw [show xorL D vj 0 = [] from rfl, List.append_nil]; exact HO2.out, HB2.out, HZ2.out, HI2.out⟩⟩
      case round =>
        obtain ⟨k, L, A', c', hk, hL, rfl, rfl, HQ⟩ := hrel
        by_cases hkt : k < 16
        · have hix := fun w' => run_index_S (P := Tryd.prog) w' 9 Tryd.underlying9 D .i64 k k rfl (by rw [HEF.out.2.2.1]; exact hkt)
          have hiy := fun w' => run_index_S (P := Tryd.prog) w' 9 Tryd.underlying9 vj .i64 k k rfl (by rw [HEF.out.2.2.2]; exact hkt)
          have HE := Lib.hid (xorL_succ D vj k)
          obtain ⟨x, hx⟩ : ∃ x, D.getD k 0 = x := ⟨_, rfl⟩
          obtain ⟨y, hy⟩ : ∃ y, vj.getD k 0 = y := ⟨_, rfl⟩
          rw [hx] at hix HE
          rw [hy] at hiy HE
          have e1 := u8x x y
          obtain ⟨z, hzz⟩ : ∃ z, x ^^^ y = z := ⟨_, rfl⟩
          rw [hzz] at e1 HE
          have k1 : decide ((k : Int) < 16) = true := decide_eq_true (by omega)
          have k2 : (k : Int) < 16 := by omega
          obtain ⟨L', hL'⟩ : ∃ L', L + 1 = L' := ⟨_, rfl⟩
          have HL := Lib.hid (And.intro hL hL')
          clear hx hy hzz hL hk hL'
          have KW := Lib.hid (w64_inc hkt (by decide))
          go_wp2_with (at_builtin; refine Held.on ?_)
          refine held_append rfl (.tmp 40) (.tmp 46) 51 51 rfl p 5 (.int .u8 0) 1 1 Tryd.underlying51 (.inl Tryd.underlying51) t_u8info rfl (by omega) (xs := vs (O ++ xorL D vj k)) (ys := [.int .u8 (z.toNat : Int)]) (m := 1) rfl rfl (HQ.out.1.keep (below_alloc _ _)) ⟨rfl, fun v hv => by simp at hv; subst hv; rfl, .inl ⟨_, _, rfl, rd_single _ _ _⟩⟩ (by have := HN.out; have := HL.out; have := HEF.out; omega) (by have := HN.out; have := HL.out; have := HEF.out; simp only [maxLen]; omega) (by rw [World.size_alloc]; exact Nat.le_succ_of_le (Nat.le_of_lt HQ.out.2.2.1)) ?_
          intro A9 c9 w9 hO9 hg9 hor9
          rw [HL.out.2] at hO9 ⊢
          have HO9 : Hid (Own w9 p 1 A9 L' c9 (vs (O ++ xorL D vj (k + 1)))) := Lib.hid (by rw [HE.out, ← List.append_assoc, vs_append]; exact hO9)
          have hb9 : Below p w w9 := by
            refine below_tchA (HQ.out.2.1.alloc (by have := HQ.out.2.2.1; exact Nat.le_of_lt this) _) (Tch.grown hg9) (fun k hk => HQ.out.2.2.2.inn k hk) ?_
            rw [World.size_alloc]; exact Nat.le_succ_of_le (Nat.le_of_lt HQ.out.2.2.1)
          have HB9 := Lib.hid hb9
          have HZ9 : Hid (p < w9.heap.size) := Lib.hid (Nat.lt_of_lt_of_le (by rw [World.size_alloc]; exact Nat.lt_succ_of_lt HQ.out.2.2.1) hg9.size)
          have HI9 := Lib.hid (HQ.out.2.2.2.new hor9 (by rw [World.size_alloc]; exact Nat.le_succ_of_le (Nat.le_of_lt HQ.out.2.2.1)))
          have HR9 : Hid (e + (k + 1) = L') := Lib.hid (by have := HL.out; omega)
          clear hO9 hg9 hor9 hb9
          have kw := KW.out
          go_wp2_with fail
          go_roundw
          case rel => exact ⟨k + 1, L', A9, c9, hkt, HR9.out, rfl, by first | (rw [kw]; go_num) | go_num, Lib.hid ⟨HO9.out, HB9.out, HZ9.out, HI9.out⟩⟩
          case measure => first | exact t_meas hkt | (rw [kw]; exact t_meas hkt)
        · obtain rfl : k = 16 := by omega
          obtain rfl : L = f := by have := HEF.out; omega
          have HQ1 : Hid (Own wr p 1 A' L c' (vs (cSho key (j + 1) iv s)) ∧ Below p w wr ∧ p < wr.heap.size ∧ Hi p A') := Lib.hid ⟨by rw [HST.out]; exact HQ.out.1, HQ.out.2⟩
          have k1 : decide ((16 : Int) < 16) = false := by decide
          have HME : Hid (N - (intOf (Value.int .i64 (L : Int))).toNat < N - (intOf (Value.int .i64 (e : Int))).toNat) := Lib.hid (by have h1 := meas16 (e := e) (n := N) (by have := HEF.out; omega); rw [HEF.out.2.1] at h1; exact h1)
          have HJ1 : Hid (16 * (j + 1) = L) := Lib.hid (by have := HEF.out; omega)
          clear HQ hkt hk hL
          have g1 := Hg1.out
          have g2 := Hg2.out
          go_wp2_with fail
          go_roundw
          case rel => exact ⟨j + 1, L, A', c', hlt, HJ1.out, by first | rw [hex, HIV.out] | rw [HIV.out], rfl, by first | (rw [g1]; done) | rfl, HQ1⟩
          case measure => exact HME.out
    · obtain rfl : n = j := by omega
      have HF := Lib.hid HJ.out
      have t0 : decide ((f : Int) ≤ N) = false := decide_eq_false (by have := HN.out.1; omega)
      have t1 : ¬ (f : Int) ≤ N := by have := HN.out.1; omega
      have hel : (cSho key n iv s).length = e := by rw [cSho_length, he]
      clear HJ hlt hj HO0 HB0 hvj hvl he hf
      have g1 := Hg1.out
      go_wp2_with fail
      refine upon_conv_bs 51 9 5 Tryd.underlying51 Tryd.underlying5 Tryd.underlying9 (cSho key n iv s) _ _ _ hel HF.out.1.rd ?_
      go_wp2_with fail
      first | go_ret2 | go_ret
      have hB : Below w.heap.size w wr := by rw [HP.out]; exact HF.out.2.1
      exact ⟨rfl, hB⟩
end Go.Proofs.YtpedkkmoplbdhaaDoor
