/- Walks: the stand-in of an authenticated cipher, in the program. -/
import Derived.Test.YtpedkkmoplbdhaaDoorAeT
namespace Go.Proofs.YtpedkkmoplbdhaaDoor
open Go.RowKit Go.Cv
set_option maxRecDepth 100000
set_option linter.unusedVariables false
set_option maxHeartbeats 2000000 in
theorem t_seal (key nonce plain ad : List UInt8) (tag : Nat) (h1 : 1 ≤ tag) (h2 : tag ≤ 32) (hs1 : key.length ≤ 100000) (hs2 : nonce.length ≤ 100000) (hs3 : plain.length ≤ 100000) (hs4 : ad.length ≤ 100000) (w : World) :
    Calls Tryd.prog 138 #[.string (S key), .string (S nonce), .string (S plain), .string (S ad), .int .i64 (tag : Nat)] w fun e w' => e = .returned (.string (S (aSeal key nonce plain ad tag))) ∧ Below w.heap.size w w' := by
  have HMK := Lib.hid (t_mark key nonce plain ad tag h1 h2 hs1 hs2 hs3 hs4)
  have HST := Lib.hid (fun i (hi : i ≤ 1000000) => t_stream key nonce i hi)
  have hz : (S plain).size = plain.length := S_size plain
  have HA : Hid (aSeal key nonce plain ad tag = aHide key nonce plain plain.length ++ aMark key nonce plain ad tag) := Lib.hid rfl
  have HML := Lib.hid (aMark_length key nonce plain ad tag h2)
  obtain ⟨mk, hmk⟩ : ∃ m, aMark key nonce plain ad tag = m := ⟨_, rfl⟩
  rw [hmk] at HMK HA HML
  obtain ⟨n, hn⟩ : ∃ n, plain.length = n := ⟨_, rfl⟩
  rw [hn] at hz HA hs3
  have HN := Lib.hid hn
  have H2 := Lib.hid h2
  obtain ⟨c0, hc0⟩ : ∃ c, n + tag = c := ⟨_, rfl⟩
  have e1 : (n : Int) + (tag : Int) = (c0 : Int) := by omega
  have e2 : IntKind.i64.wrap (c0 : Int) = (c0 : Int) := i64_nat c0 (by omega)
  have HC : Hid (c0 ≤ 100032) := Lib.hid (by omega)
  have n64 : n ≤ 4294967296 := by omega
  have HN3 := Lib.hid hs3
  clear hmk hn hc0 h1 h2 hs1 hs2 hs3 hs4
  go_enter Tryd.func138, Tryd.ntmps138
  go_wp2_with fail
  refine upon_make 51 5 (.int .u8 0) 1 Tryd.underlying51 t_u8info rfl 0 c0 rfl rfl (Nat.zero_le _) (by have := HC.out; omega) (by have := HC.out; simp only [maxLen]; omega) ?_
  intro w1 hown hb hsz
  have HO0 : Hid (Own w1 w.heap.size 1 (some ⟨w.heap.size, 0, none⟩) 0 c0 (vs (aHide key nonce plain 0))) := Lib.hid hown
  have HB0 := Lib.hid hb
  have HZ0 : Hid (w.heap.size < w1.heap.size) := Lib.hid (by omega)
  obtain ⟨p, hp⟩ : ∃ p, w.heap.size = p := ⟨_, rfl⟩
  rw [hp] at HO0 HB0 HZ0 ⊢
  have HP := Lib.hid hp
  clear hown hb hsz hp e1 e2
  go_wp2_with fail
  go_loopw [11, 12] (fun o i wr => ∃ j A c, j ≤ n ∧ i = .int .i64 (j : Nat) ∧ o = .slice A j c ∧ Hid (Own wr p 1 A j c (vs (aHide key nonce plain j)) ∧ Below p w wr ∧ p < wr.heap.size ∧ Hi p A)) (fun _ i _ => n - (intOf i).toNat)
  case atStart => exact ⟨0, _, c0, Nat.zero_le _, rfl, rfl, Lib.hid ⟨HO0.out, HB0.out, HZ0.out, .inr ⟨_, rfl, Nat.le_refl _⟩⟩⟩
  case round =>
    obtain ⟨j, A, c, hj, rfl, rfl, HJ⟩ := hrel
    by_cases hlt : j < n
    · have C1 := Lib.hid (HST.out j (by have := HN3.out; omega))
      have hix := fun w' => run_index_S (P := Tryd.prog) w' 9 Tryd.underlying9 plain .i64 j j rfl (by rw [HN.out]; exact hlt)
      have HE := Lib.hid (aHide_succ key nonce plain j)
      obtain ⟨x, hx⟩ : ∃ x, plain.getD j 0 = x := ⟨_, rfl⟩
      obtain ⟨y, hy⟩ : ∃ y, aStream key nonce j = y := ⟨_, rfl⟩
      rw [hx] at hix HE
      rw [hy] at C1 HE
      have e1 := u8x x y
      obtain ⟨z, hzz⟩ : ∃ z, x ^^^ y = z := ⟨_, rfl⟩
      rw [hzz] at e1 HE
      have jw := w64_inc hlt n64
      clear hx hy hzz
      go_wp2_with fail
      go_region_held_law (fun _ => True) (exact trivial) (first
        | (go_at_call 139; with_reducible refine (C1.out _).mono ?_; rintro e w5 ⟨rfl, rfl⟩)
        | (refine step_append rfl (.tmp 24) (.tmp 33) 51 51 rfl p 5 _ 1 1 Tryd.underlying51 (.inl Tryd.underlying51) t_u8info rfl (by omega) (xs := vs (aHide key nonce plain j)) (ys := [.int .u8 (z.toNat : Int)]) (m := 1) rfl rfl ((HJ.out.1.keep (below_alloc _ _)).keep (below_drew _)) ⟨rfl, fun v hv => by simp at hv; subst hv; rfl, .inl ⟨_, _, rfl, rd_single _ _ _⟩⟩ (by have := HN3.out; omega) (by have := HN3.out; simp only [maxLen]; omega) (by rw [World.size_drew, World.size_alloc]; exact Nat.le_succ_of_le (Nat.le_of_lt HJ.out.2.2.1)) ?_; intro A9 c9 w9 hO9 hg9 hor9))
      all_goals
        have HO9 : Hid (Own w9 p 1 A9 (j + 1) c9 (vs (aHide key nonce plain (j + 1)))) := Lib.hid (by rw [HE.out, vs_append]; exact hO9)
        have hb9 : Below p w w9 := by
          refine below_tchA (HJ.out.2.1.alloc (by have := HJ.out.2.2.1; exact Nat.le_of_lt this) _).drew (Tch.grown hg9) (fun k hk => HJ.out.2.2.2.inn k hk) ?_
          rw [World.size_drew, World.size_alloc]; exact Nat.le_succ_of_le (Nat.le_of_lt HJ.out.2.2.1)
        have HB9 := Lib.hid hb9
        have HZ9 : Hid (p < w9.heap.size) := Lib.hid (Nat.lt_of_lt_of_le (by rw [World.size_drew, World.size_alloc]; exact Nat.lt_succ_of_lt HJ.out.2.2.1) hg9.size)
        have HI9 := Lib.hid (HJ.out.2.2.2.new hor9 (by rw [World.size_drew, World.size_alloc]; exact Nat.le_succ_of_le (Nat.le_of_lt HJ.out.2.2.1)))
        clear hO9 hg9 hor9 hb9
        go_wp2_with fail
        go_roundw
        case rel => exact ⟨j + 1, A9, c9, hlt, by first | (rw [jw]; go_num) | go_num, rfl, Lib.hid ⟨HO9.out, HB9.out, HZ9.out, HI9.out⟩⟩
        case measure => first | exact t_meas hlt | (rw [jw]; exact t_meas hlt)
    · obtain rfl : n = j := by omega
      have HX : Hid (∀ w', Below wr.heap.size wr w' → (convert 51 9 (.slice A n c)).run Tryd.prog w' = .ok (.string (S (aHide key nonce plain n))) w') := Lib.hid (fun w' hb => run_conv_bs w' _ _ 5 Tryd.underlying51 Tryd.underlying5 Tryd.underlying9 (aHide key nonce plain n) _ n c (aHide_length _ _ _ _) (HJ.out.1.keep hb).rd)
      have HB3 := Lib.hid HJ.out.2
      have HLH := Lib.hid (aHide_length key nonce plain n)
      obtain ⟨hd, hhd⟩ : ∃ h, aHide key nonce plain n = h := ⟨_, rfl⟩
      rw [hhd] at HX HLH HA
      have f1 := fun w => run_add_eq (P := Tryd.prog) hd mk (hd ++ mk) rfl (by rw [List.length_append, HLH.out, HML.out]; have := HN3.out; have := H2.out; omega) w
      obtain ⟨q, hq⟩ : ∃ q, hd ++ mk = q := ⟨_, rfl⟩
      rw [hq] at f1 HA
      clear HJ hlt hj hhd hq HO0 HB0 HZ0
      go_wp2_with fail
      go_region_held_law (fun w' => (convert 51 9 (.slice A n c)).run Tryd.prog w' = .ok (.string (S hd)) w')
        (first | exact HX.out _ (below_drew wr) | exact HX.out _ (below_two (below_drew wr) hb5))
        (first
        | (go_at_call 140; with_reducible refine (HMK.out _).mono ?_; rintro e w5 ⟨rfl, hb5⟩))
      have HB5 := Lib.hid (below_two (below_drew wr) hb5)
      clear hb5
      go_wp2_with fail
      go_ret
      exact ⟨by rw [HA.out]; rfl, by rw [HP.out]; exact HB3.out.1.trans (HB5.out.mono (Nat.le_of_lt HB3.out.2.1))⟩
end Go.Proofs.YtpedkkmoplbdhaaDoor
