/- Walks: the law of datagrams that are cut into just their records. -/
import Derived.Test.YtkcacppcendhmaaDoorDgmData
import Derived.Test.YtkcacppcendhmaaDoorHeaded
import Derived.Deep.RegionHeldLaw
import Derived.Outline
namespace Go.Proofs.YtkcacppcendhmaaDoor
open Go.RowKit Go.Cv
set_option maxRecDepth 100000
set_option linter.unusedVariables false
theorem big2_parts (n : Nat) (h : n < 65536) : ∃ p q : UInt8, be 2 n = [p, q] ∧ p.toNat * 256 + q.toNat = n := by
  refine ⟨UInt8.ofNat (n / 256), UInt8.ofNat n, by simp [be], ?_⟩
  simp only [UInt8.toNat_ofNat']
  omega
theorem rec_of (ct maj mn ep sq : Nat) (k : List UInt8) (h0 : 0 < k.length) (hk : k.length < 65536) : IsRec (headOf ct maj mn ep sq k.length [] ++ k) := by
  obtain ⟨p, q, e, hpq⟩ := big2_parts k.length hk
  refine ⟨be 1 ct ++ be 1 maj ++ be 1 mn ++ be 2 ep ++ be 6 sq, be 2 k.length, k, by simp [be_length], ⟨p, q, e, hpq⟩, h0, ?_⟩
  simp [headOf]
/-- No text of the list is too long for a statement. -/
def Fit (zs : List (List UInt8)) : Prop := ∀ v ∈ zs, List.length v ≤ 2147483647
theorem fit_snoc {zs : List (List UInt8)} {j : Nat} {v : List UInt8} (h : Fit (zs.take j)) (hj : zs[j]? = some v) (hv : ¬ (2147483647 : Int) < List.length v) : Fit (zs.take (j + 1)) := by
  obtain ⟨hl, hv2⟩ := List.getElem?_eq_some_iff.1 hj
  rw [List.take_succ_eq_append_getElem hl, hv2]
  intro u hu
  rcases List.mem_append.1 hu with hu | hu
  · exact h u hu
  · simp at hu; subst hu; exact Int.ofNat_le.1 (Int.not_lt.1 hv)
theorem inc_wrapI {j n : Nat} (hj : j < n) (h : (n : Int) ≤ 2147483647) : wrap64 ((j : Int) + 1) = (j : Int) + 1 := by unfold wrap64; omega
theorem fits0 (A : Option Addr) (c : Nat) (w : World) :
    Calls Tryd.prog 5 #[.slice A 0 c] w fun e w' => e = .returned (.bool true) ∧ w = w' := by
  go_enter Tryd.func5, Tryd.ntmps5
  go_wp2_with fail
  refine wp_loop_rounds 1 ?_
  rw [rounds_succ]
  go_wp2_with fail
  go_ret
  exact ⟨rfl, rfl⟩
def FitPost (zs : List (List UInt8)) (w : World) (e : Ending) (w' : World) : Prop := ∃ d : Bool, e = .returned (.bool d) ∧ (d = true → Fit zs ∧ zs.length ≤ 2147483647) ∧ w = w'
theorem fits_big (A : Option Addr) (n c : Nat) (h1 : decide ((2147483647 : Int) < n) = true) (w : World) :
    Calls Tryd.prog 5 #[.slice A n c] w fun e w' => e = .returned (.bool false) ∧ w = w' := by
  go_enter Tryd.func5, Tryd.ntmps5
  go_wp2_with fail
  go_ret
  exact ⟨rfl, rfl⟩
set_option maxHeartbeats 1000000 in
theorem fits_some (b o n c : Nat) (zs : List (List UInt8)) (hl : zs.length = n) (h1 : decide ((2147483647 : Int) < n) = false) (w : World) (hr : Rd w (some ⟨b, o, none⟩) (sv zs)) :
    Calls Tryd.prog 5 #[.slice (some ⟨b, o, none⟩) n c] w (FitPost zs w) := by
  have HR := Lib.hid hr
  have HL := Lib.hid hl
  have H1 : Hid ((n : Int) ≤ 2147483647) := Lib.hid (by simpa using h1)
  clear hr hl
  go_enter Tryd.func5, Tryd.ntmps5
  go_wp2_with fail
  go_loop [10] (fun i => ∃ j : Nat, j ≤ n ∧ i = .int .i64 j ∧ Hid (Fit (zs.take j))) (fun i => n - (intOf i).toNat)
  case atStart => exact ⟨0, Nat.zero_le _, rfl, Lib.hid (by intro v h; simp at h)⟩
  case round =>
    obtain ⟨j, hj, rfl, hf⟩ := hrel
    by_cases hlt : j < n
    · obtain ⟨v, hv⟩ : ∃ v, zs[j]? = some v := ⟨_, List.getElem?_eq_getElem (by rw [HL.out]; exact hlt)⟩
      have hc := textCell HR.out j v hv
      have hs : (S v).size = v.length := S_size v
      have jw : wrap64 ((j : Int) + 1) = (j : Int) + 1 := inc_wrapI hlt H1.out
      have HV := Lib.hid hv
      clear hv
      by_cases hbig : (2147483647 : Int) < v.length
      · have t1 : decide ((2147483647 : Int) < v.length) = true := by simpa using hbig
        clear hbig
        go_wp2_with fail
        go_ret
        exact ⟨false, rfl, by simp, rfl⟩
      · have t1 : decide ((2147483647 : Int) < v.length) = false := by simpa using hbig
        have HBG := Lib.hid hbig
        clear hbig
        go_wp2_with fail
        go_round
        case rel => exact ⟨j + 1, hlt, by rw [jw]; go_num, Lib.hid (fit_snoc hf.out HV.out HBG.out)⟩
        case measure => rw [jw]; exact meas hlt
    · obtain rfl : j = n := Nat.le_antisymm hj (Nat.le_of_not_lt hlt)
      have ht : zs.take j = zs := List.take_of_length_le (by rw [HL.out]; exact Nat.le_refl _)
      have HT := Lib.hid ht
      clear ht
      go_wp2_with fail
      go_ret
      refine ⟨true, rfl, fun _ => ⟨?_, by rw [HL.out]; exact Int.ofNat_le.1 H1.out⟩, rfl⟩
      have := hf.out
      rwa [HT.out] at this
theorem fits_any (C : Option Addr) (n c : Nat) (zs : List (List UInt8)) (hl : zs.length = n) (w : World) (hr : Rd w C (sv zs)) :
    Calls Tryd.prog 5 #[.slice C n c] w (FitPost zs w) := by
  by_cases h0 : n = 0
  · subst h0
    refine (fits0 C c w).mono ?_
    rintro e w' ⟨rfl, rfl⟩
    refine ⟨true, rfl, fun _ => ?_, rfl⟩
    rw [List.eq_nil_of_length_eq_zero hl]
    exact ⟨by intro v hv; simp at hv, by simp⟩
  · by_cases h1 : (2147483647 : Int) < n
    · refine (fits_big C n c (by simpa using h1) w).mono ?_
      rintro e w' ⟨rfl, rfl⟩
      exact ⟨false, rfl, by simp, rfl⟩
    · obtain ⟨b, o, rfl⟩ := sv_addr hr (by omega)
      exact fits_some b o n c zs hl (by simpa using h1) w hr
/-- A number of a row. -/
theorem num_at {w : World} {A : Option Addr} {k : IntKind} {zs : List Int} (h : Rd w A (zs.map (Value.int k))) {j : Nat} (hj : j < zs.length) : ∃ b o x, A = some ⟨b, o, none⟩ ∧ x ∈ zs ∧ w.cell? ⟨b, o + j, none⟩ = some (.int k x) := by
  rcases h with h | ⟨b, o, hA, h⟩
  · have := congrArg List.length h; simp at this; subst this; simp at hj
  · exact ⟨b, o, zs[j], hA, List.getElem_mem hj, h j _ (by simp [hj])⟩
theorem sum_small {F L : Nat} (h : L < 65536) (h2 : F ≤ 200000) : F + (13 + L) ≤ 300000 := by omega
theorem flat_snoc (ws : List (List UInt8)) (r : List UInt8) : ws.flatten ++ r = (ws ++ [r]).flatten := by simp
theorem head_len (ct maj mn ep sq cl : Nat) : (headOf ct maj mn ep sq cl []).length = 13 := by simp [headOf, be_length]
set_option maxHeartbeats 4000000 in
theorem dgb_any (K E C : Option Addr) (nk ck ne ce n c : Nat) (zk ze : List Int) (zs : List (List UInt8)) (hk : zk.length = nk) (he : ze.length = ne) (hz : zs.length = n)
    (h1 : decide ((2147483647 : Int) < nk) = false) (h2 : decide ((2147483647 : Int) < ne) = false) (wk : ∀ z ∈ zk, (Lit.int .u8 z).wf = true) (we : ∀ z ∈ ze, (Lit.int .u16 z).wf = true) (w : World)
    (rk : Rd w K (zk.map (Value.int .u8))) (re : Rd w E (ze.map (Value.int .u16))) (rz : Rd w C (sv zs)) (ad : Addr)
    (hg : w.cell? ⟨0, 0, none⟩ = some (.iface 52 (.pointer (some ad)))) :
    Calls Tryd.prog 3 #[.slice K nk ck, .slice E ne ce, .slice C n c] w fun e w' => e = .returned (.bool true) ∧ Below w.heap.size w w' := by
  have HF := Lib.hid (fits_any C n c zs hz w rz)
  have HD := Lib.hid (fun (l : List UInt8) hn w hg => datagram_any l hn w ad hg)
  have HRK := Lib.hid rk
  have HRE := Lib.hid re
  have HRZ := Lib.hid rz
  have HK := Lib.hid hk
  have HE := Lib.hid he
  have HZ := Lib.hid hz
  have HG := Lib.hid hg
  have HWK := Lib.hid wk
  have HWE := Lib.hid we
  clear rk re rz hk he hz hg wk we
  go_enter Tryd.func3, Tryd.ntmps3
  go_wp2_with fail
  refine HF.out.mono ?_
  rintro e w1 ⟨d, rfl, hd, rfl⟩
  cases d with
  | false =>
    clear hd
    go_wp2_with fail
    go_ret
    exact ⟨rfl, Below.refl _ _⟩
  | true =>
    have HN : Hid (n ≤ 2147483647) := Lib.hid (by have := (hd rfl).2; rw [HZ.out] at this; exact this)
    clear hd HF
    go_wp2_with fail
    go_loopw [7, 8, 29] (fun s v i wr => ∃ j : Nat, j ≤ n ∧ i = .int .i64 j ∧ ∃ A' c' ws, s = .string (S (List.flatten ws)) ∧ v = .slice A' j c' ∧ Hid (List.length ws = j) ∧ Hid ((List.flatten ws).length ≤ 300000) ∧ Hid (∀ r ∈ ws, IsRec r) ∧ Hid (Hi w.heap.size A') ∧ Hid (Own wr w.heap.size 1 A' j c' (sv ws)) ∧ Hid (Below w.heap.size w wr)) (fun _ _ i _ => n - (intOf i).toNat)
    case atStart => exact ⟨0, Nat.zero_le _, rfl, none, 0, [], rfl, rfl, Lib.hid rfl, Lib.hid (by simp), Lib.hid (by simp), Lib.hid (.inl rfl), Lib.hid (Own.nil _ _ _), Lib.hid (Below.refl _ _)⟩
    case round =>
      obtain ⟨j, hj, rfl, A', c', ws, rfl, rfl, HWL, HFL, HIR, hA, HO, HB⟩ := hrel
      have LR := HB.out.size
      obtain ⟨fl, hfl⟩ : ∃ fl, List.flatten ws = fl := ⟨_, rfl⟩
      have hfs : (S fl).size = fl.length := S_size fl
      obtain ⟨F, hF⟩ : ∃ F, fl.length = F := ⟨_, rfl⟩
      by_cases hlt : j < n
      · obtain ⟨k, hkz⟩ : ∃ k, zs[j]? = some k := ⟨_, List.getElem?_eq_getElem (by rw [HZ.out]; exact hlt)⟩
        obtain ⟨cb, co, rfl⟩ := sv_addr HRZ.out (by rw [HZ.out]; omega)
        have hcz := textCell (HRZ.out.keep HB.out) j k hkz
        have hks : (S k).size = k.length := S_size k
        obtain ⟨L, hL⟩ : ∃ L, k.length = L := ⟨_, rfl⟩
        have jw := inc_wrap hlt HN.out
        rw [hF] at hfs
        rw [hL] at hks
        rw [hfl]
        have HFLE := Lib.hid hfl
        have HFF := Lib.hid hF
        have HLL := Lib.hid hL
        clear hfl hF hL hkz
        by_cases c1 : nk ≤ j
        · have t1 : (nk : Int) ≤ j := by omega
          have t1' : ¬ j < nk := by omega
          go_wp2_with fail
          go_ret
          exact ⟨rfl, HB.out⟩
        have t1 : ¬ (nk : Int) ≤ j := by omega
        have t1b : ((j : Nat) : Int) < nk := by omega
        by_cases c2 : ne ≤ j
        · have t2 : (ne : Int) ≤ j := by omega
          go_wp2_with fail
          go_ret
          exact ⟨rfl, HB.out⟩
        have t2 : ¬ (ne : Int) ≤ j := by omega
        have t2b : ((j : Nat) : Int) < ne := by omega
        by_cases c3 : L = 0
        · have t3 : ((L : Int) == 0) = true := by simp; omega
          go_wp2_with fail
          go_ret
          exact ⟨rfl, HB.out⟩
        have t3 : ((L : Int) == 0) = false := by simp; omega
        by_cases c4 : (65535 : Int) < L
        · have t4 : decide ((65535 : Int) < L) = true := by simpa using c4
          clear c4
          go_wp2_with fail
          go_ret
          exact ⟨rfl, HB.out⟩
        have t4 : decide ((65535 : Int) < L) = false := by simpa using c4
        have C4 : Hid (L < 65536) := Lib.hid (by omega)
        clear c4
        by_cases c5 : (200000 : Int) < F
        · have t5 : decide ((200000 : Int) < F) = true := by simpa using c5
          clear c5
          go_wp2_with fail
          go_ret
          exact ⟨rfl, HB.out⟩
        have t5 : decide ((200000 : Int) < F) = false := by simpa using c5
        have C5 : Hid (F ≤ 200000) := Lib.hid (by omega)
        clear c5
        obtain ⟨kb, ko, kx, rfl, kmem, kcell⟩ := num_at HRK.out (j := j) (by rw [HK.out]; omega)
        obtain ⟨eb, eo, ex, rfl, emem, ecell⟩ := num_at HRE.out (j := j) (by rw [HE.out]; omega)
        obtain ⟨kv, rfl, kr⟩ := nat_u8 (HWK.out _ kmem)
        obtain ⟨ev, rfl, er⟩ := nat_u16 (HWE.out _ emem)
        have HBX : Hid (∀ w', Below wr.heap.size wr w' → w'.cell? ⟨kb, ko + j, none⟩ = some (.int .u8 (kv : Int)) ∧ w'.cell? ⟨eb, eo + j, none⟩ = some (.int .u16 (ev : Int))) := Lib.hid fun w' hb => ⟨keep_of_below (below_two HB.out hb) _ _ kcell, keep_of_below (below_two HB.out hb) _ _ ecell⟩
        have jw6 : IntKind.u64.wrap (j : Int) = (j : Int) := by have := HN.out; rw [IntKind.wrap_u64]; omega
        obtain ⟨r, hr⟩ : ∃ r, headOf kv 254 253 ev (j &&& 281474976710655) k.length [] ++ k = r := ⟨_, rfl⟩
        have HFR : Hid (∀ W, Calls Tryd.prog 6 #[.int .u8 (kv : Int), .int .u16 (ev : Int),   .int .u64 (j : Int), .string { data := #[] }, .string (S k)] W fun e w' => e = .returned (.string (S r)) ∧ Below W.heap.size W w') := Lib.hid fun W => by
          have := framed_any kv ev j k (by have := HLL.out; have := C4.out; omega) kr er (by have := HN.out; omega) W
          rw [hr] at this
          exact this
        have HIS : Hid (IsRec r) := Lib.hid (by rw [← hr]; exact rec_of _ _ _ _ _ k (by have := HLL.out; omega) (by have := HLL.out; have := C4.out; omega))
        have hrl : r.length = 13 + L := by rw [← hr, List.length_append, head_len, HLL.out]
        have hadd := fun w => run_add_eq (P := Tryd.prog) fl r _ rfl (by rw [List.length_append, hrl, HFF.out]; have := C4.out; have := C5.out; omega) w
        have HRL := Lib.hid hrl
        have u1 : (j : Int) < nk := t1b
        have i0 : (0 : Int) ≤ j := Int.natCast_nonneg j
        have HJW := Lib.hid jw
        clear kmem emem kr er hr hrl c1 c2
        go_wp2_with fail
        go_region_held_law (fun w' => w'.cell? ⟨kb, ko + j, none⟩ = some (.int .u8 (kv : Int)) ∧ w'.cell? ⟨eb, eo + j, none⟩ = some (.int .u16 (ev : Int))) ((refine HBX.out _ ?_; first | exact Below.refl _ _ | exact below_drew _ | exact below_two (below_drew _) hb2)) (first | (go_at_call 6; with_reducible refine (HFR.out _).mono ?_; rintro e w2 ⟨rfl, hb2⟩))
        have HB2 : Hid (Below wr.heap.size wr w2) := Lib.hid (below_two (below_drew _) hb2)
        have HSZ : Hid (w.heap.size ≤ w2.heap.size) := Lib.hid (Nat.le_trans LR HB2.out.size)
        clear hb2 kcell ecell hcz HFR HBX
        go_wp2_with (at_builtin; refine Held.on ?_)
        refine held_append rfl (.tmp 71) (.tmp 73) 24 24 rfl w.heap.size 9 _ 1 16 Tryd.underlying24 (.inl Tryd.underlying24) strInfo rfl Nat.one_pos (xs := sv ws) (ys := [.string (S r)]) rfl rfl ((HO.out.keep HB2.out).keep (below_alloc _ _)) ⟨rfl, by intro v h; simp at h; subst h; rfl, .inl ⟨_, _, rfl, rd_single _ _ _⟩⟩ (room16 hlt HN.out).1 (room16 hlt HN.out).2 (by rw [World.size_alloc]; exact Nat.le_succ_of_le HSZ.out) ?_
        intro A2 c3 w9 hO9 hg9 hor9
        have t9 : Tch (A'.map (·.block)).toList wr w9 := (((Tch.below HB2.out []).trans (Tch.alloc _ _)).more (by simp)).trans (Tch.grown hg9)
        have hA2 : Hid (Hi w.heap.size A2) := Lib.hid (hA.out.new hor9 (by rw [World.size_alloc]; exact Nat.le_succ_of_le HSZ.out))
        have hb9 : Hid (Below w.heap.size w w9) := Lib.hid (((Tch.below HB.out []).then t9 (fun k hk => .inr (hA.out.inn k hk))).toBelow (Nat.le_refl _))
        have HO9 : Hid (Own w9 w.heap.size 1 A2 (j + 1) c3 (sv (ws ++ [r]))) := Lib.hid (by rw [sv_append]; exact hO9)
        have HWL2 : Hid ((ws ++ [r]).length = j + 1) := Lib.hid (by rw [List.length_append, HWL.out]; rfl)
        have HFL2 : Hid (((ws ++ [r]).flatten).length ≤ 300000) := Lib.hid (by
          rw [← flat_snoc, List.length_append, HFLE.out, HFF.out, HRL.out]
          exact sum_small C4.out C5.out)
        have HIR2 : Hid (∀ x ∈ ws ++ [r], IsRec x) := Lib.hid (by
          intro x hx
          rcases List.mem_append.1 hx with hx | hx
          · exact HIR.out x hx
          · simp at hx; subst hx; exact HIS.out)
        have HFE2 : Hid (fl ++ r = (ws ++ [r]).flatten) := Lib.hid (by rw [← HFLE.out]; exact flat_snoc ws r)
        clear hO9 hg9 hor9 t9
        go_wp2_with fail
        go_roundw
        case rel => exact ⟨j + 1, hlt, by rw [jw]; go_num, A2, c3, ws ++ [r], by rw [HFE2.out], rfl, HWL2, HFL2, HIR2, hA2, HO9, hb9⟩
        case measure => rw [jw]; exact meas hlt
      · obtain rfl : j = n := Nat.le_antisymm hj (Nat.le_of_not_lt hlt)
        have HL6 : Hid (fl.length ≤ 2147483647) := Lib.hid (by rw [← hfl]; exact Nat.le_trans HFL.out (by decide))
        have HCUT : Hid (Cut fl ws) := Lib.hid (by rw [← hfl]; exact cut_recs ws HIR.out)
        have HDD := Lib.hid (HD.out fl HL6.out wr (keep_of_below HB.out _ _ HG.out))
        rw [hfl]
        clear hfl hF
        go_wp2_with fail
        refine HDD.out.mono ?_
        rintro e w3 (⟨zs3, D, k3, c3, rfl, r1, r2, r3, r4, r5⟩ | ⟨rfl, r4, r5⟩)
        · have e3 : ws = zs3 := (r4 _).1 HCUT.out
          subst e3
          have R5 := Lib.hid r5
          have HS := Lib.hid (same_any D A' k3 j c3 c' ws ws r1 HWL.out (by rw [← r1, HWL.out]; exact HN.out) w3 r3 (HO.out.rd.keep r5))
          clear r1 r2 r3 r4 r5
          go_wp2_with fail
          refine HS.out.mono ?_
          rintro e w5 ⟨d, rfl, hd, b5⟩
          have hdt : d = true := hd.2 rfl
          subst hdt
          clear hd
          go_wp2_with fail
          go_ret
          exact ⟨rfl, below_two HB.out (below_two R5.out b5)⟩
        · exact absurd HCUT.out (r4 _)
theorem dgb_bigk (K E C : Option Addr) (nk ck ne ce n c : Nat) (h1 : decide ((2147483647 : Int) < nk) = true) (w : World) :
    Calls Tryd.prog 3 #[.slice K nk ck, .slice E ne ce, .slice C n c] w fun e w' => e = .returned (.bool true) ∧ Below w.heap.size w w' := by
  go_enter Tryd.func3, Tryd.ntmps3
  go_wp2_with fail
  go_ret
  exact ⟨rfl, Below.refl _ _⟩
theorem dgb_bige (K E C : Option Addr) (nk ck ne ce n c : Nat) (h1 : decide ((2147483647 : Int) < nk) = false) (h2 : decide ((2147483647 : Int) < ne) = true) (w : World) :
    Calls Tryd.prog 3 #[.slice K nk ck, .slice E ne ce, .slice C n c] w fun e w' => e = .returned (.bool true) ∧ Below w.heap.size w w' := by
  go_enter Tryd.func3, Tryd.ntmps3
  go_wp2_with fail
  go_ret
  exact ⟨rfl, Below.refl _ _⟩
theorem dgb_row (A0 : Option Addr) (n0 c0 : Nat) (z0 : List Int) (hz0 : z0.length = n0) (hn0 : n0 ≤ c0) (w : World) (hr0 : Rd w A0 (z0.map (Value.int .u8))) (hw0 : ∀ z ∈ z0, (Lit.int .u8 z).wf = true)
    (A1 : Option Addr) (n1 c1 : Nat) (z1 : List Int) (hz1 : z1.length = n1) (hn1 : n1 ≤ c1) (hr1 : Rd w A1 (z1.map (Value.int .u16))) (hw1 : ∀ z ∈ z1, (Lit.int .u16 z).wf = true)
    (A2 : Option Addr) (n2 c2 : Nat) (z2 : List (List UInt8)) (hz2 : z2.length = n2) (hn2 : n2 ≤ c2) (hr2 : Rd w A2 (z2.map fun l => Value.string (S l))) (ad : Addr)
    (hg : w.cell? ⟨0, 0, none⟩ = some (.iface 52 (.pointer (some ad)))) :
    Calls Tryd.prog 3 #[.slice A0 n0 c0, .slice A1 n1 c1, .slice A2 n2 c2] w fun e w' => e = .returned (.bool true) ∧ Below w.heap.size w w' := by
  by_cases h1 : (2147483647 : Int) < n0
  · exact dgb_bigk A0 A1 A2 n0 c0 n1 c1 n2 c2 (by simpa using h1) w
  by_cases h2 : (2147483647 : Int) < n1
  · exact dgb_bige A0 A1 A2 n0 c0 n1 c1 n2 c2 (by simpa using h1) (by simpa using h2) w
  exact dgb_any A0 A1 A2 n0 c0 n1 c1 n2 c2 z0 z1 z2 hz0 hz1 hz2 (by simpa using h1) (by simpa using h2) hw0 hw1 w hr0 hr1 hr2 ad hg
end Go.Proofs.YtkcacppcendhmaaDoor
