/- Walks: the specification's P_hash and verify data. -/
import Derived.Test.YtohankdfnjogfaaSpH
import Derived.Test.YtohankdfnjogfaaVd2
namespace Go.Proofs.Ytohankdfnjogfaa
open Go.RowKit Go.Cv
set_option maxRecDepth 100000
set_option linter.unusedVariables false
set_option maxHeartbeats 2000000 in
theorem s_phash (kind n : Nat) (hk : kind < 64) (hn : n ≤ 2000) (key seed : List UInt8) (hs1 : key.length ≤ 50000) (hs2 : seed.length ≤ 50000) (w : World) :
    Calls Try.prog 17 #[.int .i64 (kind : Nat), .string (S key), .string (S seed), .int .i64 n] w fun e w' => ∃ k, e = .returned (.string (S ((phOut kind key seed k).take n))) ∧ n ≤ k * toySize kind ∧ Below w.heap.size w w' := by
  have HH : Hid (∀ (t : List UInt8), t.length ≤ 500000 → ∀ W, Calls Try.prog 26 #[.int .i64 (kind : Nat), .string (S key), .string (S t)] W fun e w' => e = .returned (.string (S (toyHmac kind key t))) ∧ Below W.heap.size W w') := Lib.hid (fun t ht W => s_hmac kind hk key t (by omega) ht W)
  have HS := Lib.hid (And.intro hs1 hs2)
  have hsz := toySize_le kind
  clear hs1 hs2 hk
  go_enter Try.func17, Try.ntmps17
  go_wp2_with fail
  go_loopw [9, 10] (fun o a wr => ∃ j L : Nat, Hid ((phOut kind key seed j).length = L ∧ L ≤ n + 32 ∧ Below w.heap.size w wr) ∧ o = .string (S (phOut kind key seed j)) ∧ a = .string (S (phA kind key seed j))) (fun o _ _ => n - (match o with | .string s => s.size | _ => 0))
  case atStart => exact ⟨0, 0, Lib.hid ⟨rfl, by omega, Below.refl _ _⟩, rfl, rfl⟩
  case round =>
    obtain ⟨j, L, HJ, rfl, rfl⟩ := hrel
    have zo : (S (phOut kind key seed j)).size = L := by rw [S_size]; exact HJ.out.1
    have hAl : (phA kind key seed j).length ≤ 50000 := by
      rcases j with _ | j
      · exact HS.out.2
      · rw [phA_length]; omega
    have hlen : (phOut kind key seed (j + 1)).length = L + toySize kind := by rw [phOut, List.length_append, HJ.out.1, toyHmac_length]
    have hA1 : (phA kind key seed (j + 1)).length = toySize kind := phA_length _ _ _ _
    have C1 := Lib.hid (HH.out (phA kind key seed j) (by omega))
    have C2 := Lib.hid (HH.out (phA kind key seed (j + 1) ++ seed) (by rw [List.length_append, hA1]; have := HS.out; omega))
    have hE1 : Hid (phA kind key seed (j + 1) = toyHmac kind key (phA kind key seed j)) := Lib.hid rfl
    have hE2 : Hid (phOut kind key seed (j + 1) = phOut kind key seed j ++ toyHmac kind key (phA kind key seed (j + 1) ++ seed)) := Lib.hid rfl
    have hE3 : Hid (L = j * toySize kind) := Lib.hid (by rw [← HJ.out.1, phOut_length])
    obtain ⟨o, ho⟩ : ∃ o, phOut kind key seed j = o := ⟨_, rfl⟩
    obtain ⟨o', ho'⟩ : ∃ o, phOut kind key seed (j + 1) = o := ⟨_, rfl⟩
    obtain ⟨a, ha⟩ : ∃ a, phA kind key seed j = a := ⟨_, rfl⟩
    obtain ⟨a', ha'⟩ : ∃ a, phA kind key seed (j + 1) = a := ⟨_, rfl⟩
    rw [ho] at zo HJ hE2
    rw [ho'] at hlen hE2
    rw [ha] at C1 hE1 hAl
    rw [ha'] at C2 hE1 hE2 hA1
    rw [← hE1.out] at C1
    obtain ⟨x, hx⟩ : ∃ x, toyHmac kind key (a' ++ seed) = x := ⟨_, rfl⟩
    rw [hx] at C2 hE2
    have hd := fun w => run_add_eq (P := Try.prog) a' seed (a' ++ seed) rfl (by rw [List.length_append, hA1]; have := HS.out; omega) w
    have hd2 := fun w => run_add_eq (P := Try.prog) o x o' hE2.out.symm (by rw [hlen]; have := HJ.out; omega) w
    have HO := Lib.hid (And.intro ho (And.intro ho' (And.intro ha ha')))
    rw [ho, ha]
    obtain ⟨q, hq⟩ : ∃ q, a' ++ seed = q := ⟨_, rfl⟩
    rw [hq] at hd C2
    have HL := Lib.hid hlen
    clear ho ho' ha ha' hx hq hlen hA1 hAl
    by_cases hlt : L < n
    · have t1 : decide ((L : Int) < n) = true := by simp; omega
      go_wp2_with fail
      refine (C1.out _).mono ?_
      rintro e w2 ⟨rfl, hb2⟩
      have HB2 := Lib.hid (below_two HJ.out.2.2 hb2)
      clear hb2
      go_wp2_with fail
      refine (C2.out _).mono ?_
      rintro e w3 ⟨rfl, hb3⟩
      have HB3 := Lib.hid (below_two HB2.out hb3)
      clear hb3
      go_wp2_with fail
      go_roundw
      case rel => exact ⟨j + 1, L + toySize kind, Lib.hid ⟨by rw [HO.out.2.1]; exact HL.out, by omega, HB3.out⟩, by rw [HO.out.2.1], by rw [HO.out.2.2.2]⟩
      case measure =>
        have z9 : (S o').size = L + toySize kind := by rw [S_size]; exact HL.out
        first | (simp only [z9, zo]; omega) | (show n - (S o').size < n - (S o).size; rw [z9, zo]; omega)
    · have t1 : decide ((L : Int) < n) = false := by simp; omega
      have i1 : (n : Int) ≤ L := by omega
      have i2 : ¬ (L : Int) < n := by omega
      have HK : Hid (n ≤ j * toySize kind) := Lib.hid (by have := hE3.out; omega)
      go_wp2_with fail
      rw [S_extract, List.drop_zero]
      go_ret
      exact ⟨j, by rw [HO.out.1]; rfl, HK.out, HJ.out.2.2⟩
set_option maxHeartbeats 1000000 in
theorem s_vd (kind : Nat) (cl : Bool) (hk : kind < 64) (key seed : List UInt8) (hs1 : key.length ≤ 50000) (hs2 : seed.length ≤ 50000) (w : World) :
    Calls Try.prog 9 #[.int .i64 (kind : Nat), .bool cl, .string (S key), .string (S seed)] w fun e w' => ∃ k, e = .returned (.string (S ((phOut kind key (vdLabel cl ++ toySum kind seed) k).take 12))) ∧ 12 ≤ k * toySize kind ∧ Below w.heap.size w w' := by
  have H1 := Lib.hid (s_sum kind seed hk (by omega))
  have hsz := toySize_le kind
  have hll : (vdLabel cl).length = 15 := by cases cl <;> rfl
  have hl : (vdLabel cl ++ toySum kind seed).length ≤ 50000 := by rw [List.length_append, toySum_length, hll]; omega
  have H2 := Lib.hid (s_phash kind 12 hk (by omega) key (vdLabel cl ++ toySum kind seed) hs1 hl)
  have ha := fun w => run_add_eq (P := Try.prog) (vdLabel cl) (toySum kind seed) _ rfl (by omega) w
  obtain ⟨t, ht⟩ : ∃ t, toySum kind seed = t := ⟨_, rfl⟩
  rw [ht] at H1 H2 ha ⊢
  clear ht hl hsz hk hs1 hs2 hll
  cases cl
  · obtain ⟨q, hq⟩ : ∃ q, vdLabel false ++ t = q := ⟨_, rfl⟩
    rw [hq] at H2 ha ⊢
    have ha : ∀ w, (Op.stringOp .add (ByteArray.mk #[115, 101, 114, 118, 101, 114, 32, 102, 105, 110, 105, 115, 104, 101, 100]) (S t)).run Try.prog w = .ok (.string (S q)) w := ha
    clear hq
    go_enter Try.func9, Try.ntmps9
    go_wp2_with fail
    refine (H1.out _).mono ?_
    rintro e w1 ⟨rfl, hb1⟩
    go_wp2_with fail
    refine (H2.out _).mono ?_
    rintro e w2 ⟨k, rfl, hk2, hb2⟩
    go_wp2_with fail
    go_ret
    exact ⟨k, rfl, hk2, below_two hb1 hb2⟩
  · obtain ⟨q, hq⟩ : ∃ q, vdLabel true ++ t = q := ⟨_, rfl⟩
    rw [hq] at H2 ha ⊢
    have ha : ∀ w, (Op.stringOp .add (ByteArray.mk #[99, 108, 105, 101, 110, 116, 32, 102, 105, 110, 105, 115, 104, 101, 100]) (S t)).run Try.prog w = .ok (.string (S q)) w := ha
    clear hq
    go_enter Try.func9, Try.ntmps9
    go_wp2_with fail
    refine (H1.out _).mono ?_
    rintro e w1 ⟨rfl, hb1⟩
    go_wp2_with fail
    refine (H2.out _).mono ?_
    rintro e w2 ⟨k, rfl, hk2, hb2⟩
    go_wp2_with fail
    go_ret
    exact ⟨k, rfl, hk2, below_two hb1 hb2⟩
end Go.Proofs.Ytohankdfnjogfaa
