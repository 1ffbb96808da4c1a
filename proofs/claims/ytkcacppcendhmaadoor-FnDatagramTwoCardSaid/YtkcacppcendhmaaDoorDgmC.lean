/- Walks: a datagram that is cut into its records, connection IDs looked at. -/
import Derived.Test.YtkcacppcendhmaaDoorDgmData
import Derived.Deep.RegionHeldLaw
namespace Go.Proofs.YtkcacppcendhmaaDoor
open Go.RowKit Go.Cv
set_option maxRecDepth 100000
set_option linter.unusedVariables false
set_option maxHeartbeats 2000000 in
theorem unpackC_any (b n c : Nat) (l : List UInt8) (hl : l.length = n) (hnc : n ≤ c) (hn : n ≤ 2147483647) (w : World) (ad : Addr) (hr : Rd w (some ⟨b, 0, none⟩) (vs l))
    (hg : w.cell? ⟨0, 0, none⟩ = some (.iface 52 (.pointer (some ad)))) :
    Calls Tryd.prog 13 #[.slice (some ⟨b, 0, none⟩) n c, .int .i64 0] w (UPost b l w) := by
  have HR := Lib.hid hr
  have HL := Lib.hid hl
  have HG := Lib.hid hg
  have HC := Lib.hid hnc
  have HN := Lib.hid hn
  clear hr hl hg hnc hn
  go_enter Tryd.func13, Tryd.ntmps13
  go_wp2_with fail
  go_loopw [6, 7] (fun v i wr => ∃ f j : Nat, f ≤ n ∧ i = .int .i64 f ∧ Hid (13 * j ≤ f) ∧ ∃ A' c' xs zs, v = .slice A' j c' ∧ Hid (∃ a, A' = some ⟨a, 0, none⟩ ∧ w.heap.size ≤ a) ∧ Hid (Own wr w.heap.size 1 A' j c' xs) ∧ Hid (Below w.heap.size w wr) ∧ Hid (Subs b l xs zs) ∧ Hid (CutAt l f zs)) (fun _ i _ => n - (intOf i).toNat)
  case atStart => exact ⟨0, 0, Nat.zero_le _, rfl, Lib.hid (by omega), _, _, [], [], rfl, Lib.hid ⟨_, rfl, Nat.le_refl _⟩, Lib.hid (own_made0 _ _), Lib.hid (below_alloc _ _), Lib.hid (Subs.nil _ _), Lib.hid (CutAt.start l)⟩
  case round =>
    obtain ⟨f, j, hf, rfl, hj, A', c', xs, zs, rfl, hA, hO, hB, hS, hK⟩ := hrel
    have LR := hB.out.size
    by_cases hlt : f < n
    · obtain ⟨r, hr⟩ : ∃ r, f + r = n := ⟨n - f, by omega⟩
      have h0 : ((n : Int) != (f : Int)) = true := by simp; omega
      have hdl : (l.drop f).length = r := by rw [List.length_drop, HL.out]; omega
      have hdne : l.drop f ≠ [] := by intro h; rw [h] at hdl; simp at hdl; omega
      have hgl := keep_of_below hB.out _ _ HG.out
      obtain ⟨x, hx⟩ : ∃ x, ((l.drop f).getD 0 0).toNat = x := ⟨_, rfl⟩
      have hbyte : wr.cell? ⟨b, f, none⟩ = some (.int .u8 (x : Int)) := by
        have h1 := (HR.out.keep hB.out).piece f r
        rw [List.take_of_length_le (by omega)] at h1
        have c0 := h1.byte 0 (by omega)
        rw [hx] at c0
        exact c0
      have sI : (f : Int) < n := by omega
      clear hx
      rcases Bool.eq_false_or_eq_true ((x : Int) == 25) with hq | hq
      · by_cases hsh : r ≤ 13
        · have t1 : decide ((r : Int) ≤ 13) = true := by simp; omega
          have hno : Hid (∀ ys, ¬ Cut l ys) := Lib.hid (hK.out.none_ (cut_short hdne (by omega)))
          obtain ⟨e1, e2, e3⟩ := left_wrap n f r hr HN.out
          have t1' : r ≤ 13 := hsh
          clear hf hj hr hdl hdne hlt hsh
          go_wp2_with fail
          go_quiet (fail)
          go_wp2_with fail
          go_ret2
          exact .inr ⟨ad, rfl, hno.out, below_drewN hB.out nq⟩
        · have t1 : decide ((r : Int) ≤ 13) = false := by simp; omega
          obtain ⟨v, hv⟩ : ∃ v, ((l.drop f).getD 11 0).toNat * 256 + ((l.drop f).getD 12 0).toNat = v := ⟨_, rfl⟩
          have hv6 : v < 65536 := by have := ((l.drop f).getD 11 0).toNat_lt; have := ((l.drop f).getD 12 0).toNat_lt; omega
          obtain ⟨p, hp⟩ : ∃ p, 13 + v = p := ⟨_, rfl⟩
          obtain ⟨e, he⟩ : ∃ e, f + p = e := ⟨_, rfl⟩
          obtain ⟨g, hg⟩ : ∃ g, f + 11 = g := ⟨_, rfl⟩
          have hrl : recLen (l.drop f) = p := by rw [← hp, ← hv]; rfl
          have s1 : (g : Int) ≤ n := by omega
          have s2 : ¬ c = g := by have := HC.out; omega
          have s3 : ((65536 : Int)) = 65536 := rfl
          have hU : Hid (∀ W, Below wr.heap.size wr W → Calls Tryd.prog 16 #[.agg #[], .slice (some ⟨b, g, none⟩) (n - g) (c - g)] W fun e w' => e = .returned (.int .u16 (v : Int)) ∧ Below W.heap.size W w') := Lib.hid (by
            intro W hW
            have h1 := ((HR.out.keep hB.out).keep hW).piece f r
            rw [List.take_of_length_le (by omega)] at h1
            have c0 := h1.byte 11 (by omega)
            have c1 := h1.byte 12 (by omega)
            have := u16_any b g (n - g) (c - g) ((l.drop f).getD 11 0).toNat ((l.drop f).getD 12 0).toNat (by have := ((l.drop f).getD 11 0).toNat_lt; omega) (by have := ((l.drop f).getD 12 0).toNat_lt; omega) (slot_two (by omega)) W (by rw [← hg]; exact c0) (by rw [← hg]; exact c1)
            rw [hv] at this
            exact this)
          have hbd : Below wr.heap.size wr wr.drew := below_drew wr
          have HJ := hj
          have HRN : Hid (Rnd n f r v p e g) := Lib.hid ⟨hr, hp, he, hg, hv6, HN.out⟩
          have HRL := Lib.hid hrl
          have HDL := Lib.hid hdl
          have HDN := Lib.hid hdne
          have HF := Lib.hid hf
          have HS13 := Lib.hid hsh
          have HLT := Lib.hid hlt
          have t1' : ¬ r ≤ 13 := hsh
          have s4 : (f : Int) ≤ e := by omega
          have s5 : ¬ c = f := by have := HC.out; omega
          have s6 : ¬ c < f := by have := HC.out; omega
          have s7 : f ≤ e := by omega
          obtain ⟨e1, e2, e3⟩ := left_wrap n f r hr HN.out
          obtain ⟨a1, a2, a3⟩ := sum11_wrap f g hg (head_le hg hlt HN.out)
          obtain ⟨p1, p2, p3⟩ := sum13_wrap v p hp (small_le hv6 hp)
          obtain ⟨q1, q2, q3⟩ := sum_wrap f p e he (near_le hv6 hp he hlt HN.out)
          have w6 : IntKind.i64.wrap (v : Int) = (v : Int) := (wrap_few v (v_le hv6)).2
          clear hv hv6 hp he hg hrl hdl hdne hr hsh hf hlt hj s3
          go_wp2_with fail
          clear hbd
          first
            | go_region_held_law (fun _ => True) (trivial) (first | (go_at_call 16; with_reducible refine (hU.out _ (below_drew _)).mono ?_; rintro ee w9 ⟨rfl, hb9⟩))
            | fail "no"
          have hbd := below_drew wr
          have HB9 : Hid (Below wr.heap.size wr w9) := Lib.hid (below_two hbd hb9)
          have LZ := HB9.out.size
          clear hbd hb9 hU hgl
          by_cases c7 : n < e
          · have t7 : decide ((n : Int) < (e : Int)) = true := decide_eq_true (Int.ofNat_lt.2 c7)
            have hgl := keep_of_below (below_two hB.out HB9.out) _ _ HG.out
            have hno : Hid (∀ ys, ¬ Cut l ys) := Lib.hid (hK.out.none_ (cut_long HDN.out (by rw [HDL.out, HRL.out]; exact HRN.out.short c7)))
            clear s1 s2 s4 s5 s6 s7
            go_wp2_with fail
            go_quiet (fail)
            go_wp2_with fail
            go_ret2
            exact .inr ⟨ad, rfl, hno.out, below_drewN (below_two hB.out HB9.out) nq⟩
          · have t7 : decide ((n : Int) < (e : Int)) = false := decide_eq_false (fun h => c7 (Int.ofNat_lt.1 h))
            obtain ⟨s8, s9, sA, sB, sC, sD, sE⟩ := HRN.out.piece c7 HC.out
            have SB := Lib.hid sB
            have SC := Lib.hid sC
            have SD := Lib.hid sD
            have SE := Lib.hid sE
            clear sB sC sD sE
            have C7 := Lib.hid c7
            have HSZ : Hid (w.heap.size ≤ w9.heap.size) := Lib.hid (Nat.le_trans LR LZ)
            go_wp2_with (at_builtin; refine Held.on ?_)
            refine held_append rfl (.tmp 51) (.tmp 58) 39 39 rfl w.heap.size 22 _ 1 24 Tryd.underlying39 (.inl Tryd.underlying39) bytesInfo rfl Nat.one_pos (xs := xs) (ys := [.slice (some ⟨b, f, none⟩) p (c - f)]) rfl rfl ((hO.out.keep HB9.out).keep (below_alloc _ _)) ⟨rfl, by intro v h; simp at h; subst h; rfl, .inl ⟨_, _, rfl, rd_single _ _ _⟩⟩ (room24 HJ.out HLT.out HN.out).1 (room24 HJ.out HLT.out HN.out).2 (by rw [World.size_alloc]; exact Nat.le_succ_of_le HSZ.out) ?_
            intro A2 c3 wA hOA hgA horA
            have hA2 : Hid (∃ a, A2 = some ⟨a, 0, none⟩ ∧ w.heap.size ≤ a) := Lib.hid (Hi.some_ hA.out horA (by rw [World.size_alloc]; exact Nat.le_succ_of_le HSZ.out))
            have tA : Tch (A'.map (·.block)).toList wr wA := (((Tch.below HB9.out []).trans (Tch.alloc _ _)).more (by simp)).trans (Tch.grown hgA)
            have HBA : Hid (Below w.heap.size w wA) := Lib.hid (((Tch.below hB.out []).then tA (fun k hk => .inr (by
              obtain ⟨a, rfl, ha⟩ := hA.out
              simp at hk
              subst hk
              exact ha))).toBelow (Nat.le_refl _))
            have HOA := Lib.hid hOA
            have HSA : Hid (Subs b l (xs ++ [.slice (some ⟨b, f, none⟩) p (c - f)]) (zs ++ [(l.drop f).take p])) := Lib.hid (hS.out.snoc f p (c - f) (by rw [HL.out]; exact SB.out))
            have HKA : Hid (CutAt l e (zs ++ [(l.drop f).take p])) := Lib.hid (by
              have := hK.out.next (by rw [HDL.out]; exact Nat.lt_of_not_le HS13.out) (by rw [HDL.out, HRL.out]; exact SC.out)
              rw [HRL.out, HRN.out.fe] at this
              exact this)
            have HJA : Hid (13 * (j + 1) ≤ e) := Lib.hid (by rw [← HRN.out.fe]; exact Nat.add_le_add HJ.out SD.out)
            have HEA : Hid (e ≤ n ∧ f < e) := Lib.hid ⟨SE.out, by rw [← HRN.out.fe]; exact Nat.lt_add_of_pos_right (Nat.lt_of_lt_of_le (by decide) SD.out)⟩
            clear hOA hgA horA tA
            go_wp2_with fail
            go_roundw
            case rel => exact ⟨e, j + 1, HEA.out.1, by go_num, HJA, A2, c3, _, _, rfl, hA2, HOA, HBA, HSA, HKA⟩
            case measure =>
              have h1 := HEA.out.1
              have h2 := HEA.out.2
              clear e1 e2 e3 a1 a2 a3 p1 p2 p3 q1 q2 q3 w6
              simp [intOf]; omega
      · by_cases hsh : r ≤ 13
        · have t1 : decide ((r : Int) ≤ 13) = true := by simp; omega
          have hno : Hid (∀ ys, ¬ Cut l ys) := Lib.hid (hK.out.none_ (cut_short hdne (by omega)))
          obtain ⟨e1, e2, e3⟩ := left_wrap n f r hr HN.out
          have t1' : r ≤ 13 := hsh
          clear hf hj hr hdl hdne hlt hsh
          go_wp2_with fail
          go_quiet (fail)
          go_wp2_with fail
          go_ret2
          exact .inr ⟨ad, rfl, hno.out, below_drewN hB.out nq⟩
        · have t1 : decide ((r : Int) ≤ 13) = false := by simp; omega
          obtain ⟨v, hv⟩ : ∃ v, ((l.drop f).getD 11 0).toNat * 256 + ((l.drop f).getD 12 0).toNat = v := ⟨_, rfl⟩
          have hv6 : v < 65536 := by have := ((l.drop f).getD 11 0).toNat_lt; have := ((l.drop f).getD 12 0).toNat_lt; omega
          obtain ⟨p, hp⟩ : ∃ p, 13 + v = p := ⟨_, rfl⟩
          obtain ⟨e, he⟩ : ∃ e, f + p = e := ⟨_, rfl⟩
          obtain ⟨g, hg⟩ : ∃ g, f + 11 = g := ⟨_, rfl⟩
          have hrl : recLen (l.drop f) = p := by rw [← hp, ← hv]; rfl
          have s1 : (g : Int) ≤ n := by omega
          have s2 : ¬ c = g := by have := HC.out; omega
          have s3 : ((65536 : Int)) = 65536 := rfl
          have hU : Hid (∀ W, Below wr.heap.size wr W → Calls Tryd.prog 16 #[.agg #[], .slice (some ⟨b, g, none⟩) (n - g) (c - g)] W fun e w' => e = .returned (.int .u16 (v : Int)) ∧ Below W.heap.size W w') := Lib.hid (by
            intro W hW
            have h1 := ((HR.out.keep hB.out).keep hW).piece f r
            rw [List.take_of_length_le (by omega)] at h1
            have c0 := h1.byte 11 (by omega)
            have c1 := h1.byte 12 (by omega)
            have := u16_any b g (n - g) (c - g) ((l.drop f).getD 11 0).toNat ((l.drop f).getD 12 0).toNat (by have := ((l.drop f).getD 11 0).toNat_lt; omega) (by have := ((l.drop f).getD 12 0).toNat_lt; omega) (slot_two (by omega)) W (by rw [← hg]; exact c0) (by rw [← hg]; exact c1)
            rw [hv] at this
            exact this)
          have hbd : Below wr.heap.size wr wr.drew := below_drew wr
          have HJ := hj
          have HRN : Hid (Rnd n f r v p e g) := Lib.hid ⟨hr, hp, he, hg, hv6, HN.out⟩
          have HRL := Lib.hid hrl
          have HDL := Lib.hid hdl
          have HDN := Lib.hid hdne
          have HF := Lib.hid hf
          have HS13 := Lib.hid hsh
          have HLT := Lib.hid hlt
          have t1' : ¬ r ≤ 13 := hsh
          have s4 : (f : Int) ≤ e := by omega
          have s5 : ¬ c = f := by have := HC.out; omega
          have s6 : ¬ c < f := by have := HC.out; omega
          have s7 : f ≤ e := by omega
          obtain ⟨e1, e2, e3⟩ := left_wrap n f r hr HN.out
          obtain ⟨a1, a2, a3⟩ := sum11_wrap f g hg (head_le hg hlt HN.out)
          obtain ⟨p1, p2, p3⟩ := sum13_wrap v p hp (small_le hv6 hp)
          obtain ⟨q1, q2, q3⟩ := sum_wrap f p e he (near_le hv6 hp he hlt HN.out)
          have w6 : IntKind.i64.wrap (v : Int) = (v : Int) := (wrap_few v (v_le hv6)).2
          clear hv hv6 hp he hg hrl hdl hdne hr hsh hf hlt hj s3
          go_wp2_with fail
          clear hbd
          first
            | go_region_held_law (fun _ => True) (trivial) (first | (go_at_call 16; with_reducible refine (hU.out _ (below_drew _)).mono ?_; rintro ee w9 ⟨rfl, hb9⟩))
            | fail "no"
          have hbd := below_drew wr
          have HB9 : Hid (Below wr.heap.size wr w9) := Lib.hid (below_two hbd hb9)
          have LZ := HB9.out.size
          clear hbd hb9 hU hgl
          by_cases c7 : n < e
          · have t7 : decide ((n : Int) < (e : Int)) = true := decide_eq_true (Int.ofNat_lt.2 c7)
            have hgl := keep_of_below (below_two hB.out HB9.out) _ _ HG.out
            have hno : Hid (∀ ys, ¬ Cut l ys) := Lib.hid (hK.out.none_ (cut_long HDN.out (by rw [HDL.out, HRL.out]; exact HRN.out.short c7)))
            clear s1 s2 s4 s5 s6 s7
            go_wp2_with fail
            go_quiet (fail)
            go_wp2_with fail
            go_ret2
            exact .inr ⟨ad, rfl, hno.out, below_drewN (below_two hB.out HB9.out) nq⟩
          · have t7 : decide ((n : Int) < (e : Int)) = false := decide_eq_false (fun h => c7 (Int.ofNat_lt.1 h))
            obtain ⟨s8, s9, sA, sB, sC, sD, sE⟩ := HRN.out.piece c7 HC.out
            have SB := Lib.hid sB
            have SC := Lib.hid sC
            have SD := Lib.hid sD
            have SE := Lib.hid sE
            clear sB sC sD sE
            have C7 := Lib.hid c7
            have HSZ : Hid (w.heap.size ≤ w9.heap.size) := Lib.hid (Nat.le_trans LR LZ)
            go_wp2_with (at_builtin; refine Held.on ?_)
            refine held_append rfl (.tmp 51) (.tmp 58) 39 39 rfl w.heap.size 22 _ 1 24 Tryd.underlying39 (.inl Tryd.underlying39) bytesInfo rfl Nat.one_pos (xs := xs) (ys := [.slice (some ⟨b, f, none⟩) p (c - f)]) rfl rfl ((hO.out.keep HB9.out).keep (below_alloc _ _)) ⟨rfl, by intro v h; simp at h; subst h; rfl, .inl ⟨_, _, rfl, rd_single _ _ _⟩⟩ (room24 HJ.out HLT.out HN.out).1 (room24 HJ.out HLT.out HN.out).2 (by rw [World.size_alloc]; exact Nat.le_succ_of_le HSZ.out) ?_
            intro A2 c3 wA hOA hgA horA
            have hA2 : Hid (∃ a, A2 = some ⟨a, 0, none⟩ ∧ w.heap.size ≤ a) := Lib.hid (Hi.some_ hA.out horA (by rw [World.size_alloc]; exact Nat.le_succ_of_le HSZ.out))
            have tA : Tch (A'.map (·.block)).toList wr wA := (((Tch.below HB9.out []).trans (Tch.alloc _ _)).more (by simp)).trans (Tch.grown hgA)
            have HBA : Hid (Below w.heap.size w wA) := Lib.hid (((Tch.below hB.out []).then tA (fun k hk => .inr (by
              obtain ⟨a, rfl, ha⟩ := hA.out
              simp at hk
              subst hk
              exact ha))).toBelow (Nat.le_refl _))
            have HOA := Lib.hid hOA
            have HSA : Hid (Subs b l (xs ++ [.slice (some ⟨b, f, none⟩) p (c - f)]) (zs ++ [(l.drop f).take p])) := Lib.hid (hS.out.snoc f p (c - f) (by rw [HL.out]; exact SB.out))
            have HKA : Hid (CutAt l e (zs ++ [(l.drop f).take p])) := Lib.hid (by
              have := hK.out.next (by rw [HDL.out]; exact Nat.lt_of_not_le HS13.out) (by rw [HDL.out, HRL.out]; exact SC.out)
              rw [HRL.out, HRN.out.fe] at this
              exact this)
            have HJA : Hid (13 * (j + 1) ≤ e) := Lib.hid (by rw [← HRN.out.fe]; exact Nat.add_le_add HJ.out SD.out)
            have HEA : Hid (e ≤ n ∧ f < e) := Lib.hid ⟨SE.out, by rw [← HRN.out.fe]; exact Nat.lt_add_of_pos_right (Nat.lt_of_lt_of_le (by decide) SD.out)⟩
            clear hOA hgA horA tA
            go_wp2_with fail
            go_roundw
            case rel => exact ⟨e, j + 1, HEA.out.1, by go_num, HJA, A2, c3, _, _, rfl, hA2, HOA, HBA, HSA, HKA⟩
            case measure =>
              have h1 := HEA.out.1
              have h2 := HEA.out.2
              clear e1 e2 e3 a1 a2 a3 p1 p2 p3 q1 q2 q3 w6
              simp [intOf]; omega
    · obtain rfl : f = n := by omega
      go_wp2_with fail
      go_ret2
      obtain ⟨a, rfl, _⟩ := hA.out
      exact .inl ⟨zs, xs, a, j, c', rfl, by have := hO.out.1; have := hS.out.1; omega, by have := hj.out; have := HL.out; omega, hO.out.rd, hS.out, (by have h := hK.out; rw [← HL.out] at h; exact h.done), hB.out⟩

theorem datagramC_any (l : List UInt8) (hn : l.length ≤ 2147483647) (w : World) (ad : Addr)
    (hg : w.cell? ⟨0, 0, none⟩ = some (.iface 52 (.pointer (some ad)))) :
    Calls Tryd.prog 9 #[.string (S l), .int .i64 0] w (DPost l w) := by
  have HLM : Hid (l.length ≤ maxLen) := Lib.hid (by simp only [maxLen]; omega)
  have HN := Lib.hid hn
  have HG := Lib.hid hg
  clear hn hg
  go_enter Tryd.func9, Tryd.ntmps9
  go_wp2_with fail
  refine upon_conv_sb 9 22 5 Tryd.underlying9 Tryd.underlying22 Tryd.underlying5 l HLM.out ?_
  intro c w1 hown hb hlt
  have HU := Lib.hid (unpackC_any w.heap.size l.length c l rfl hown.2.1 HN.out w1 ad hown.rd (keep_of_below hb _ _ HG.out))
  have HR := Lib.hid hown.rd
  have HB := Lib.hid hb
  clear hown hb hlt
  go_wp2_with fail
  refine HU.out.mono ?_
  rintro e w2 (⟨zs, xs, a, k, c2, rfl, h1, h2, h3, h4, h5, h6⟩ | ⟨ad, rfl, h2, h3⟩)
  · have HT := Lib.hid (texts_any _ a k c2 l xs zs h1 (by have := HN.out; omega) h4 w2 h3 (HR.out.keep h6))
    have H1 := Lib.hid h1
    have H2 := Lib.hid h2
    have H5 := Lib.hid h5
    have HB2 := Lib.hid (below_two HB.out h6)
    clear h1 h2 h3 h4 h5 h6
    go_wp2_with fail
    refine HT.out.mono ?_
    rintro e w3 ⟨A', c', rfl, h1, h2⟩
    go_wp2_with fail
    go_ret2
    exact .inl ⟨zs, A', k, c', rfl, H1.out, H2.out, h1, H5.out, below_two HB2.out h2⟩
  · have H2 := Lib.hid h2
    have HB2 := Lib.hid (below_two HB.out h3)
    clear h2 h3
    go_wp2_with fail
    refine (texts_no _ _ _ _ _ w2).mono ?_
    rintro e w3 ⟨rfl, rfl⟩
    go_wp2_with fail
    go_ret2
    exact .inr ⟨rfl, H2.out, HB2.out⟩
end Go.Proofs.YtkcacppcendhmaaDoor
