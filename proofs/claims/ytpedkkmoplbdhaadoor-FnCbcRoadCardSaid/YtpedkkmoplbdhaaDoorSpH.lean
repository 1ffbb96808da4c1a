/- Walks: the specification's keyed hash. -/
import Derived.Test.YtpedkkmoplbdhaaDoorTop
import Derived.Test.YtpedkkmoplbdhaaDoorHmSum
import Derived.Test.YtpedkkmoplbdhaaDoorBase
import Derived.Deep.DeepCutAuto
import Derived.Deep.RegionLaw
namespace Go.Proofs.YtpedkkmoplbdhaaDoor
open Go.RowKit Go.Cv
set_option maxRecDepth 100000
set_option linter.unusedVariables false
theorem own_ge {w : World} {B n c b o : Nat} {xs : List Value} (h : Own w B 1 (some ⟨b, o, none⟩) n c xs) (hc : 0 < c) : B ≤ b := by
  obtain ⟨_, _, _, h0 | ⟨b', o', hA, h4, _⟩⟩ := h
  · omega
  · injection hA with hA; injection hA with hA; omega
set_option maxHeartbeats 4000000 in
theorem s_hmac (kind : Nat) (hk : kind < 64) (key text : List UInt8) (hs1 : key.length ≤ 100000) (hs2 : text.length ≤ 500000) (w : World) :
    Calls Tryd.prog 79 #[.int .i64 (kind : Nat), .string (S key), .string (S text)] w fun e w' => e = .returned (.string (S (toyHmac kind key text))) ∧ Below w.heap.size w w' := by
  have HB := Lib.hid (s_block kind hk w)
  have HSK := Lib.hid (s_sum kind key hk (by omega))
  have z1 : (S key).size = key.length := S_size key
  obtain ⟨m, hm⟩ : ∃ m, toyBlock kind = m := ⟨_, rfl⟩
  have hm8 := toyBlock_le kind
  rw [hm] at hm8 HB
  have HM := Lib.hid hm
  clear hm
  go_enter Tryd.func79, Tryd.ntmps79
  go_upto_if 17 with (refine HB.out.mono ?_; rintro e w1 ⟨rfl, rfl⟩)
  have HKE : Hid (hmKey kind key = if m < key.length then toySum kind key else key) := Lib.hid (by rw [hmKey, HM.out])
  have HKL : Hid ((hmKey kind key).length ≤ 100000) := Lib.hid (by rcases hmKey_length kind key with h1 | h1; omega; (rw [h1]; have := toySize_le kind; omega))
  go_cut [1] (fun s1 wx => s1 = .string (S (hmKey kind key)) ∧ Below w.heap.size w wx)
  case first =>
    by_cases hgt : m < key.length
    · have t1 : decide (m < key.length) = true := decide_eq_true hgt
      go_wp2_with fail
      refine (HSK.out w).mono ?_
      rintro e w1 ⟨rfl, hb⟩
      go_wp2_with fail
      go_meet
      case rel => exact ⟨by rw [HKE.out, if_pos hgt], hb⟩
    · have t1 : decide (m < key.length) = false := decide_eq_false hgt
      go_wp2_with fail
      go_meet
      case rel => exact ⟨by rw [HKE.out, if_neg hgt], Below.refl _ _⟩
  case rest =>
    obtain ⟨rfl, hb0⟩ := hcut
    have HB0 := Lib.hid hb0
    obtain ⟨pk, hpk⟩ : ∃ pk, hmKey kind key = pk := ⟨_, rfl⟩
    rw [hpk]
    rw [hpk] at HKL
    have HPK := Lib.hid hpk
    clear HKE hb0 hpk z1 HB HSK
    go_upto_region 5 with (fail)
    have hmk := make_bytes m hm8.2
    go_cut [8, 9] (fun s8 s9 wx => ∃ I O, s8 = .slice (some ⟨I, 0, none⟩) m m ∧ s9 = .slice (some ⟨O, 0, none⟩) m m ∧ I ≠ O ∧ Own wx wc.heap.size 1 (some ⟨I, 0, none⟩) m m (List.replicate m (.int .u8 0)) ∧ Own wx wc.heap.size 1 (some ⟨O, 0, none⟩) m m (List.replicate m (.int .u8 0)) ∧ Below wc.heap.size wc wx)
    case first =>
      go_region_with (fail)
      all_goals (go_wp2_with fail; go_meet)
      all_goals
        have o1 : Own ((wc.alloc (zeroRow m)).alloc (zeroRow m)).drew wc.heap.size 1 (some ⟨wc.heap.size, 0, none⟩) m m (List.replicate m (.int .u8 0)) := Own.drew ((own_zero wc m hm8.2).keep (below_alloc _ _))
        have o2 : Own ((wc.alloc (zeroRow m)).alloc (zeroRow m)).drew wc.heap.size 1 (some ⟨wc.heap.size + 1, 0, none⟩) m m (List.replicate m (.int .u8 0)) := by
          have h1 := own_zero (wc.alloc (zeroRow m)) m hm8.2
          rw [World.size_alloc] at h1
          exact Own.drew (h1.lower (Nat.le_succ _))
        have b1 : Below wc.heap.size wc ((wc.alloc (zeroRow m)).alloc (zeroRow m)).drew := Below.drew (below_two (below_alloc _ _) (below_alloc _ _))
      · exact ⟨_, _, rfl, rfl, by omega, o1, o2, b1⟩
      · exact ⟨_, _, rfl, rfl, by omega, o2, o1, b1⟩
    case rest =>
      obtain ⟨I, O, rfl, rfl, hne, hI, hO, hb⟩ := hcut
      obtain ⟨P1, hP1⟩ : ∃ P, hmPad 54 kind key = P := ⟨_, rfl⟩
      obtain ⟨P2, hP2⟩ : ∃ P, hmPad 92 kind key = P := ⟨_, rfl⟩
      have hl1 : P1.length = m := by rw [← hP1, hmPad_length, HM.out]
      have hl2 : P2.length = m := by rw [← hP2, hmPad_length, HM.out]
      have hz : ∀ k, vs (List.replicate k 0) = List.replicate k (Value.int .u8 0) := fun k => by simp [vs]
      rw [← hz, ← hl1, ← fillPart_zero, hl1] at hI
      rw [← hz, ← hl2, ← fillPart_zero, hl2] at hO
      have HL := Lib.hid (And.intro hl1 hl2)
      have HP := Lib.hid (And.intro hP1 hP2)
      have HNE := Lib.hid hne
      have HI := Lib.hid (And.intro hI hO)
      have HBB := Lib.hid hb
      have m64 : m ≤ 4294967296 := by omega
      have zk : (S pk).size = pk.length := S_size pk
      clear hI hO hb hl1 hl2 hP1 hP2 hz hne hmk
      go_wp2_with fail
      rename World => wl
      go_loopw [10] (fun i wr => ∃ j : Nat, j ≤ m ∧ i = .int .i64 j ∧ Hid (Own wr wc.heap.size 1 (some ⟨I, 0, none⟩) m m (vs (fillPart P1 j)) ∧ Own wr wc.heap.size 1 (some ⟨O, 0, none⟩) m m (vs (fillPart P2 j)) ∧ Below wc.heap.size wc wr)) (fun i _ => m - (intOf i).toNat)
      case atStart => exact ⟨0, Nat.zero_le _, rfl, Lib.hid ⟨HI.out.1, HI.out.2, HBB.out⟩⟩
      case round =>
        obtain ⟨j, hj, rfl, HJ⟩ := hrel
        by_cases hlt : j < m
        · obtain ⟨ci, fi⟩ := own_vs HJ.out.1 j hlt
          obtain ⟨co, fo⟩ := own_vs HJ.out.2.1 j hlt
          have hn := HNE.out
          have hn' : ¬ O = I := fun e => hn e.symm
          have hpj := padKey_at m pk j hlt
          have e1 := vs_xor54 ((padKey m pk).getD j 0)
          have e2 := vs_xor92 ((padKey m pk).getD j 0)
          have s1 := fillPart_step P1 j (by rw [HL.out.1]; exact hlt)
          have s2 := fillPart_step P2 j (by rw [HL.out.2]; exact hlt)
          have g1 : P1.getD j 0 = (padKey m pk).getD j 0 ^^^ 54 := by rw [← HP.out.1, hmPad, HM.out, HPK.out]; exact map_getD _ _ _ (by rw [padKey_length]; exact hlt)
          have g2 : P2.getD j 0 = (padKey m pk).getD j 0 ^^^ 92 := by rw [← HP.out.2, hmPad, HM.out, HPK.out]; exact map_getD _ _ _ (by rw [padKey_length]; exact hlt)
          rw [g1] at s1
          rw [g2] at s2
          have jw := w64_inc hlt m64
          by_cases hjk : j < pk.length
          · rw [if_pos hjk] at hpj
            rw [hpj] at e1 e2 s1 s2
            have hix := fun w' => run_index_S (P := Tryd.prog) w' 9 Tryd.underlying9 pk .i64 j j rfl hjk
            obtain ⟨y1, hy1⟩ : ∃ y, pk.getD j 0 ^^^ 54 = y := ⟨_, rfl⟩
            obtain ⟨y2, hy2⟩ : ∃ y, pk.getD j 0 ^^^ 92 = y := ⟨_, rfl⟩
            obtain ⟨x, hx⟩ : ∃ x, (pk.getD j 0).toNat = x := ⟨_, rfl⟩
            rw [hy1] at e1 s1
            rw [hy2] at e2 s2
            rw [hx] at e1 e2 hix
            have HS := Lib.hid (And.intro s1 s2)
            have hji : (j : Int) < pk.length := by omega
            have hjd : decide ((j : Int) < pk.length) = true := by simp; omega
            clear s1 s2 hy1 hy2 hx hpj g1 g2
            go_wp2_with fail
            go_roundw
            case rel => exact ⟨j + 1, hlt, by first | (rw [jw]; go_num) | go_num, Lib.hid ⟨by rw [← HS.out.1]; exact (own_vs_set HJ.out.1 j y1 hlt).tch (Tch.set _ O j _) (.inr ⟨I, rfl, by simpa using hn⟩), by rw [← HS.out.2]; exact own_vs_set (HJ.out.2.1.tch (Tch.set _ I j _) (.inr ⟨O, rfl, by simpa using hn'⟩)) j y2 hlt, (HJ.out.2.2.setCell (p := ⟨I, j, none⟩) (own_ge HJ.out.1 (by omega)) _).setCell (p := ⟨O, j, none⟩) (own_ge HJ.out.2.1 (by omega)) _⟩⟩
            case measure => first | exact t_meas hlt | (rw [jw]; exact t_meas hlt)
          · rw [if_neg hjk] at hpj
            rw [hpj] at e1 e2 s1 s2
            obtain ⟨y1, hy1⟩ : ∃ y, (0 : UInt8) ^^^ 54 = y := ⟨_, rfl⟩
            obtain ⟨y2, hy2⟩ : ∃ y, (0 : UInt8) ^^^ 92 = y := ⟨_, rfl⟩
            rw [hy1] at e1 s1
            rw [hy2] at e2 s2
            have x0 : ((0 : UInt8).toNat : Int) = 0 := rfl
            rw [x0] at e1 e2
            have HS := Lib.hid (And.intro s1 s2)
            have hji : ¬ (j : Int) < pk.length := by omega
            have hjd : decide ((j : Int) < pk.length) = false := by simp; omega
            clear s1 s2 hy1 hy2 x0 hpj g1 g2
            go_wp2_with fail
            go_roundw
            case rel => exact ⟨j + 1, hlt, by first | (rw [jw]; go_num) | go_num, Lib.hid ⟨by rw [← HS.out.1]; exact (own_vs_set HJ.out.1 j y1 hlt).tch (Tch.set _ O j _) (.inr ⟨I, rfl, by simpa using hn⟩), by rw [← HS.out.2]; exact own_vs_set (HJ.out.2.1.tch (Tch.set _ I j _) (.inr ⟨O, rfl, by simpa using hn'⟩)) j y2 hlt, (HJ.out.2.2.setCell (p := ⟨I, j, none⟩) (own_ge HJ.out.1 (by omega)) _).setCell (p := ⟨O, j, none⟩) (own_ge HJ.out.2.1 (by omega)) _⟩⟩
            case measure => first | exact t_meas hlt | (rw [jw]; exact t_meas hlt)
        · obtain rfl : m = j := by omega
          obtain ⟨j1, j2, j3⟩ := HJ.out
          have f1 : fillPart P1 m = P1 := by have := fillPart_all P1; rwa [HL.out.1] at this
          have f2 : fillPart P2 m = P2 := by have := fillPart_all P2; rwa [HL.out.2] at this
          rw [f1] at j1
          rw [f2] at j2
          have HX : Hid (∀ w', Below wr.heap.size wr w' → (convert 51 9 (.slice (some ⟨I, 0, none⟩) m m)).run Tryd.prog w' = .ok (.string (S P1)) w' ∧ (convert 51 9 (.slice (some ⟨O, 0, none⟩) m m)).run Tryd.prog w' = .ok (.string (S P2)) w') := Lib.hid (fun w' hb => ⟨run_conv_bs w' _ _ 5 Tryd.underlying51 Tryd.underlying5 Tryd.underlying9 P1 _ m m HL.out.1 (j1.keep hb).rd, run_conv_bs w' _ _ 5 Tryd.underlying51 Tryd.underlying5 Tryd.underlying9 P2 _ m m HL.out.2 (j2.keep hb).rd⟩)
          have HB3 := Lib.hid j3
          clear j1 j2 j3 f1 f2 HJ hlt hj
          obtain ⟨q1, d1⟩ : ∃ q, P1 ++ text = q := ⟨_, rfl⟩
          have hq1 : q1.length ≤ 1000000 := by rw [← d1, List.length_append, HL.out.1]; omega
          have hs32 := toySize_le kind
          obtain ⟨t1, dt⟩ : ∃ t, toySum kind q1 = t := ⟨_, rfl⟩
          have ht1 : t1.length ≤ 32 := by rw [← dt, toySum_length]; omega
          obtain ⟨q2, d2⟩ : ∃ q, P2 ++ t1 = q := ⟨_, rfl⟩
          have hq2 : q2.length ≤ 1000000 := by rw [← d2, List.length_append, HL.out.2]; omega
          have ha1 := fun w => run_add_eq (P := Tryd.prog) P1 text q1 d1 (by omega) w
          have ha2 := fun w => run_add_eq (P := Tryd.prog) P2 t1 q2 d2 (by omega) w
          have HC1 : Hid (∀ W, Calls Tryd.prog 88 #[.int .i64 (kind : Nat), .string (S q1)] W fun e w' => e = .returned (.string (S t1)) ∧ Below W.heap.size W w') := Lib.hid (fun W => by rw [← dt]; exact s_sum kind q1 hk hq1 W)
          have HC2 : Hid (∀ W, Calls Tryd.prog 88 #[.int .i64 (kind : Nat), .string (S q2)] W fun e w' => e = .returned (.string (S (toySum kind q2))) ∧ Below W.heap.size W w') := Lib.hid (fun W => s_sum kind q2 hk hq2 W)
          have HE : Hid (toySum kind q2 = toyHmac kind key text) := Lib.hid (by rw [toyHmac, HP.out.1, HP.out.2, d1, dt, d2])
          obtain ⟨t2, d3⟩ : ∃ t, toySum kind q2 = t := ⟨_, rfl⟩
          rw [d3] at HC2 HE
          clear d1 dt d2 d3 hq1 hq2 ht1 hs32
          go_wp2_with fail
          go_region_held_law (fun w' => (convert 51 9 (.slice (some ⟨I, 0, none⟩) m m)).run Tryd.prog w' = .ok (.string (S P1)) w' ∧ (convert 51 9 (.slice (some ⟨O, 0, none⟩) m m)).run Tryd.prog w' = .ok (.string (S P2)) w')
            (first | exact HX.out _ (below_drew wr) | exact HX.out _ (below_two (below_drew wr) hb5) | exact HX.out _ (below_two (below_two (below_drew wr) hb5) hb6))
            (first
            | (go_at_call 88; with_reducible refine (HC1.out _).mono ?_; rintro e w5 ⟨rfl, hb5⟩)
            | (go_at_call 88; with_reducible refine (HC2.out _).mono ?_; rintro e w6 ⟨rfl, hb6⟩))
          have HB6 := Lib.hid (below_two (below_two (below_drew wr) hb5) hb6)
          clear hb5 hb6
          go_wp2_with fail
          go_ret
          exact ⟨by rw [← HE.out]; simp, below_two HB0.out (HB3.out.trans (HB6.out.mono HB3.out.size))⟩
end Go.Proofs.YtpedkkmoplbdhaaDoor
