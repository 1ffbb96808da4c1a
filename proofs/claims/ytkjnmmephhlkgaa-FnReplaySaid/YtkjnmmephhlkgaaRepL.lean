/- Walks: the law of the window. -/
import Derived.Test.YtkjnmmephhlkgaaRepS
namespace Go.Proofs.Ytkjnmmephhlkgaa
open Go.RowKit Go.Cv
set_option maxRecDepth 100000
set_option linter.unusedVariables false
/-- Where the reference stands: i answers, j numbers. -/
structure SpR (w0 w : World) (W M : Nat) (zs : List Nat) (fs : List Bool) (i j : Nat) (A : Option Addr) (k c : Nat) (A' : Option Addr) (c' : Nat) : Prop where
  blk : Blk w w0.heap.size 38 (spRow W M (rst W M zs fs j) A k c)
  len : (rst W M zs fs j).2.length = k
  rd : Rd w A (wv (rst W M zs fs j).2)
  own : Own w (w0.heap.size + 1) 1 A' i c' (bv (rout W M zs fs i))
  hiA : Hi (w0.heap.size + 1) A
  hi' : Hi (w0.heap.size + 1) A'
  loA : Lo A w
  lo' : Lo A' w
  sep : ∀ a, A.map (·.block) = some a → A'.map (·.block) ≠ some a
  below : Below w0.heap.size w0 w
theorem rd_tch {w w' : World} {A : Option Addr} {xs : List Value} {L : List Nat} (h : Rd w A xs) (ht : Tch L w w') (hn : ∀ a, A.map (·.block) = some a → a ∉ L) : Rd w' A xs := by
  rcases h with h | ⟨b, o, rfl, hr⟩
  · exact .inl h
  · exact Rd.tch (.inr ⟨b, o, rfl, hr⟩) ht (hn b rfl)
theorem SpR.keep {w0 w w' : World} {W M : Nat} {zs : List Nat} {fs : List Bool} {i j : Nat} {A : Option Addr} {k c : Nat} {A' : Option Addr} {c' : Nat} (h : SpR w0 w W M zs fs i j A k c A' c') (hb : Below w.heap.size w w') : SpR w0 w' W M zs fs i j A k c A' c' :=
  ⟨h.blk.keep hb, h.len, h.rd.keep hb, h.own.keep hb, h.hiA, h.hi', h.loA.mono hb.size, h.lo'.mono hb.size, h.sep, below_two h.below hb⟩
theorem SpR.app {w0 w w9 : World} {W M : Nat} {zs : List Nat} {fs : List Bool} {j : Nat} {A : Option Addr} {k c : Nat} {A' A2 : Option Addr} {c' c2 : Nat} {ob : Obj} {v : Bool} (h : SpR w0 w W M zs fs j j A k c A' c')
    (hv : fr W M (rst W M zs fs j) (zs.getD j 0) = v) (hO : Own w9 (w0.heap.size + 1) 1 A2 (j + 1) c2 (bv (rout W M zs fs j) ++ [Value.bool v]))
    (hg : (w.alloc ob).grownBy w9 (A'.map (·.block))) (hor : (A2 = A' ∧ c2 = c') ∨ A2 = some ⟨(w.alloc ob).heap.size, 0, none⟩) : SpR w0 w9 W M zs fs (j + 1) j A k c A2 c2 := by
  have t9 : Tch (A'.map (·.block)).toList w w9 := ((Tch.alloc w ob).more (by simp)).trans (Tch.grown hg)
  have hp := h.blk.lt
  have hs := h.below.size
  refine ⟨h.blk.tch t9 (h.hi'.notin (Nat.lt_succ_self _)), h.len, rd_tch h.rd t9 (fun a ha hm => h.sep a ha (by simpa using hm)), ?_, h.hiA, h.hi'.new hor (by simp; omega), h.loA.mono t9.size, hO.lo (Nat.succ_pos j), ?_, ((Tch.below h.below []).then t9 (fun q hq => .inr (by have := h.hi'.inn q hq; omega))).toBelow (Nat.le_refl _)⟩
  · rw [rout_next, hv, ← bv_snoc]
    exact hO
  · intro a ha
    rcases hor with ⟨rfl, _⟩ | rfl
    · exact h.sep a ha
    · have := h.loA a ha
      simp; omega
theorem SpR.stay {w0 w : World} {W M : Nat} {zs : List Nat} {fs : List Bool} {i j : Nat} {A : Option Addr} {k c : Nat} {A' : Option Addr} {c' : Nat} (h : SpR w0 w W M zs fs i j A k c A' c') (hn : (fr W M (rst W M zs fs j) (zs.getD j 0) && fs.getD j false) = false) : SpR w0 w W M zs fs i (j + 1) A k c A' c' := by
  have e : rst W M zs fs (j + 1) = rst W M zs fs j := by rw [rst, hn]; simp
  exact ⟨by rw [e]; exact h.blk, by rw [e]; exact h.len, by rw [e]; exact h.rd, h.own, h.hiA, h.hi', h.loA, h.lo', h.sep, h.below⟩
theorem SpR.take {w0 w w1 w2 : World} {W M : Nat} {zs : List Nat} {fs : List Bool} {i j : Nat} {A A2 : Option Addr} {k c c2 : Nat} {A' : Option Addr} {c' : Nat} (h : SpR w0 w W M zs fs i j A k c A' c') (hf : fr W M (rst W M zs fs j) (zs.getD j 0) = true) (ha : fs.getD j false = true)
    (hb : Below w.heap.size w w1) (hr : Rd w1 A2 (wv (tk (rst W M zs fs j) (zs.getD j 0)).2)) (hi : Hi w.heap.size A2) (hl : Lo A2 w1) (hk : Blk w2 w0.heap.size 38 (spRow W M (tk (rst W M zs fs j) (zs.getD j 0)) A2 (k + 1) c2)) (hg : w1.grownBy w2 (some w0.heap.size)) : SpR w0 w2 W M zs fs i (j + 1) A2 (k + 1) c2 A' c' := by
  have e : rst W M zs fs (j + 1) = tk (rst W M zs fs j) (zs.getD j 0) := by rw [rst, hf, ha]; simp
  have hp := h.blk.lt
  have tg : Tch [w0.heap.size] w1 w2 := Tch.grown hg
  refine ⟨by rw [e]; exact hk, by rw [e]; simp [tk, h.len], by rw [e]; exact rd_tch hr tg (fun a ha => by
      rcases hi with rfl | ⟨x, rfl, hx⟩
      · simp at ha
      · simp at ha; subst ha; simp; omega), (h.own.keep hb).tch tg (h.hi'.away (by simp)), hi_low hi (by omega), h.hi', hl.mono tg.size, (h.lo'.mono hb.size).mono tg.size, ?_, ?_⟩
  · intro a ha
    rcases hi with rfl | ⟨x, rfl, hx⟩
    · simp at ha
    · simp at ha; subst ha
      exact h.lo'.ne hx
  · exact ((Tch.below (below_two h.below hb) []).then tg (by simp)).toBelow (Nat.le_refl _)
theorem rst_len (W M : Nat) (zs : List Nat) (fs : List Bool) {j n : Nat} (hj : j ≤ n) (hn : n ≤ 300) {k : Nat} (h : (rst W M zs fs j).2.length = k) : k ≤ 300 := by
  have := rst_taken W M zs fs j
  omega
set_option maxHeartbeats 2000000 in
theorem run2_any (W M c b o n cc b2 o2 c2 : Nat) (zs : List Nat) (fs : List Bool) (hz : Sized W M c) (hl : zs.length = n) (hla : fs.length = n) (hn : n ≤ 300) (hzs : ∀ z ∈ zs, z < 18446744073709551616) (w : World) (hr : Rd w (some ⟨b, o, none⟩) (wv zs)) (hr2 : Rd w (some ⟨b2, o2, none⟩) (bv fs)) :
    Calls Try.prog 6 #[.int .i64 (W : Nat), .int .u64 (M : Nat), .slice (some ⟨b, o, none⟩) n cc, .slice (some ⟨b2, o2, none⟩) n c2] w fun e w' => ∃ A c', e = .returned (.slice A n c') ∧ Rd w' A (bv (rout W M zs fs n)) ∧ Below w.heap.size w w' := by
  have HR := Lib.hid hr
  have HR2 := Lib.hid hr2
  have HL := Lib.hid hl
  have HLA := Lib.hid hla
  have HN := Lib.hid hn
  have HZ := Lib.hid hz
  have HZS := Lib.hid hzs
  have H0 : Hid (SpR w (w.alloc (.cells #[.int .i64 (W : Nat), .int .u64 (M : Nat), .bool false, .int .u64 0, .slice none 0 0] 38)) W M zs fs 0 0 none 0 0 none 0) := Lib.hid ⟨Blk.new _ _ _, rfl, .inl rfl, by simpa [rout, bv] using Own.nil _ _ 1, .inl rfl, .inl rfl, Lo.none _, Lo.none _, by simp, below_alloc _ _⟩
  clear hr hr2 hl hla hn hz hzs
  go_enter Try.func6, Try.ntmps6
  go_wp2_with fail
  generalize w.alloc (.cells #[.int .i64 (W : Nat), .int .u64 (M : Nat), .bool false, .int .u64 0, .slice none 0 0] 38) = w1 at *
  go_loopw [10, 11] (fun v i wr => ∃ j : Nat, j ≤ n ∧ i = .int .i64 j ∧ ∃ A k c A' c', v = .slice A' j c' ∧ Hid (SpR w wr W M zs fs j j A k c A' c')) (fun _ i _ => n - (intOf i).toNat)
  case atStart => exact ⟨0, Nat.zero_le _, rfl, none, 0, 0, none, 0, rfl, H0⟩
  case round =>
    obtain ⟨j, hj, rfl, A, k, cA, A', c', rfl, HS⟩ := hrel
    by_cases hlt : j < n
    · obtain ⟨z, hz⟩ : ∃ z, zs.getD j 0 = z := ⟨_, rfl⟩
      have hzb := getD_mem_lt HZS.out j (by rw [HL.out]; exact hlt)
      obtain ⟨ac, hac⟩ : ∃ z, fs.getD j false = z := ⟨_, rfl⟩
      have hk3 := rst_len W M zs fs hj HN.out HS.out.len
      have HCF : Hid (∀ W', Below wr.heap.size wr W' → Calls Try.prog 10 #[.agg (spRow W M (rst W M zs fs j) A k cA), .int .u64 (z : Nat)] W' fun e w' => e = .returned (.bool (fr W M (rst W M zs fs j) z)) ∧ Below W'.heap.size W' w') := Lib.hid (fun W' hb => fresh_any W M z k cA A _ HS.out.len hk3 HZ.out.W2 HZ.out.M2 (rst_le HZ.out.W1 zs fs j) (by rw [← hz]; exact hzb) W' (HS.out.rd.keep hb))
      have HCT : Hid (∀ W', Below wr.heap.size wr W' → Rd W' A (wv (rst W M zs fs j).2) → Calls Try.prog 11 #[.agg (spRow W M (rst W M zs fs j) A k cA), .int .u64 (z : Nat)] W' fun e w' => ∃ A' c', e = .returned (.agg (spRow W M (tk (rst W M zs fs j) z) A' (k + 1) c')) ∧ Rd w' A' (wv (tk (rst W M zs fs j) z).2) ∧ Below W'.heap.size W' w' ∧ Hi W'.heap.size A' ∧ Lo A' w') := Lib.hid (fun W' hb hr => take2_any W M z k cA A _ HS.out.len hk3 W' hr)
      have jw : wrap64 ((j : Int) + 1) = (j : Int) + 1 := by have := HN.out; unfold wrap64; omega
      have t1 : decide ((n : Int) ≤ j) = false := by simp; omega
      have t1' : ¬ n ≤ j := by omega
      have HJ : Hid (j + 1 ≤ 300) := Lib.hid (by have := HN.out; omega)
      have HZJ := Lib.hid hz
      have HAC := Lib.hid hac
      have hjn : (j : Int) < n := by omega
      have hcz : ∀ w', Below wr.heap.size wr w' → w'.cell? ⟨b, o + j, none⟩ = some (.int .u64 (z : Nat)) := fun w' hb => by
        have c0 := wv_rd ((HR.out.keep HS.out.below).keep hb) j (by rw [HL.out]; exact hlt)
        rw [hz] at c0
        exact c0
      have hcb : ∀ w', Below wr.heap.size wr w' → Blk w' w.heap.size 38 (spRow W M (rst W M zs fs j) A k cA) := fun w' hb => HS.out.blk.keep hb
      clear hz hac hzb hk3
      have HRST : Hid (∃ s, rst W M zs fs j = s) := Lib.hid ⟨_, rfl⟩
      obtain ⟨s, hs⟩ := HRST.out
      obtain ⟨bg, hbg⟩ : ∃ g, (!s.2.isEmpty) = g := ⟨_, rfl⟩
      obtain ⟨l, hl⟩ : ∃ g, s.1 = g := ⟨_, rfl⟩
      rw [hs] at HCF hcb
      unfold spRow at HCF hcb
      rw [hbg, hl] at HCF hcb
      have HCZ := Lib.hid hcz
      have HCB := Lib.hid hcb
      have HLET := Lib.hid (And.intro hs (And.intro hbg hl))
      clear HRST hs hbg hl hcz hcb
      obtain ⟨fv, hfv⟩ : ∃ v, fr W M s z = v := ⟨_, rfl⟩
      rw [hfv] at HCF
      have HFV := Lib.hid hfv
      clear hfv
      have HKX : Hid (∀ w', Below wr.heap.size wr w' → w'.cell? ⟨w.heap.size, 0, none⟩ = some (.int .i64 (W : Nat)) ∧ w'.cell? ⟨w.heap.size, 1, none⟩ = some (.int .u64 (M : Nat)) ∧ w'.cell? ⟨w.heap.size, 2, none⟩ = some (.bool bg) ∧ w'.cell? ⟨w.heap.size, 3, none⟩ = some (.int .u64 (l : Nat)) ∧ w'.cell? ⟨w.heap.size, 4, none⟩ = some (.slice A k cA) ∧ w'.cell? ⟨b, o + j, none⟩ = some (.int .u64 (z : Nat))) := Lib.hid (fun w' hb =>
        ⟨((HCB.out w' hb).cell 0).trans rfl, ((HCB.out w' hb).cell 1).trans rfl, ((HCB.out w' hb).cell 2).trans rfl, ((HCB.out w' hb).cell 3).trans rfl, ((HCB.out w' hb).cell 4).trans rfl, HCZ.out w' hb⟩)
      go_wp2_with fail
      go_region_held_law (fun w' => w'.cell? ⟨w.heap.size, 0, none⟩ = some (.int .i64 (W : Nat)) ∧ w'.cell? ⟨w.heap.size, 1, none⟩ = some (.int .u64 (M : Nat)) ∧ w'.cell? ⟨w.heap.size, 2, none⟩ = some (.bool bg) ∧ w'.cell? ⟨w.heap.size, 3, none⟩ = some (.int .u64 (l : Nat)) ∧ w'.cell? ⟨w.heap.size, 4, none⟩ = some (.slice A k cA) ∧ w'.cell? ⟨b, o + j, none⟩ = some (.int .u64 (z : Nat)))
        ((refine HKX.out _ ?_; (repeat (first | exact Below.refl _ _ | refine below_two ?_ hb2 | refine Below.drew ?_)); done)) (first
        | (go_at_call 10; with_reducible refine (HCF.out _ (below_drew _)).mono ?_; rintro e w2 ⟨rfl, hb2⟩))
      have HS2 := Lib.hid (HS.out.keep (below_two (below_drew _) hb2))
      have HBX := Lib.hid (below_two (below_drew wr) hb2)
      clear hb2
      go_wp2_with (at_builtin; refine Held.on ?_)
      refine held_append rfl (.tmp 28) (.tmp 30) 24 24 rfl (w.heap.size + 1) 4 _ 1 1 Try.underlying24 (.inl Try.underlying24) boolinfo rfl (by omega) (xs := bv (rout W M zs fs j)) (ys := [.bool fv]) rfl rfl (HS2.out.own.keep (below_alloc _ _)) ⟨rfl, by intro v h; simp at h; subst h; rfl, .inl ⟨_, _, rfl, rd_single _ _ _⟩⟩ (by have := HJ.out; omega) (by have := HJ.out; simp only [maxLen]; omega) (by have h1 := HS2.out.blk.lt; simp; omega) ?_
      intro A2 c3 w9 hO9 hg9 hor9
      have HS9 := Lib.hid (HS2.out.app (by rw [HZJ.out, HLET.out.1]; exact HFV.out) hO9 hg9 hor9)
      have d0 := bv_at (HR2.out.keep HS9.out.below) j (by rw [HLA.out]; exact hlt)
      rw [HAC.out] at d0
      clear hO9 hg9 hor9
      cases fv with
      | false =>
        have HST := Lib.hid (HS9.out.stay (by rw [HZJ.out, HLET.out.1, HFV.out, Bool.false_and]))
        go_wp2_with fail
        go_roundw
        case rel => exact ⟨j + 1, hlt, by rw [jw]; go_num, A, k, cA, A2, c3, rfl, HST⟩
        case measure => rw [jw]; exact rmeas hlt
      | true =>
        cases ac with
        | false =>
          have HST := Lib.hid (HS9.out.stay (by rw [HAC.out, Bool.and_false]))
          go_wp2_with fail
          go_roundw
          case rel => exact ⟨j + 1, hlt, by rw [jw]; go_num, A, k, cA, A2, c3, rfl, HST⟩
          case measure => rw [jw]; exact rmeas hlt
        | true =>
          have HSD := Lib.hid (HS9.out.keep (below_drew w9))
          have hB := HSD.out.blk
          have hcr : w9.drew.cell? ⟨b, o + j, none⟩ = some (.int .u64 (z : Nat)) := by
            have c0 := wv_rd (HR.out.keep HSD.out.below) j (by rw [HL.out]; exact hlt)
            rw [HZJ.out] at c0
            exact c0
          rw [HLET.out.1] at hB
          unfold spRow at hB
          rw [HLET.out.2.1, HLET.out.2.2] at hB
          have x0 := (hB.cell 0).trans (rfl : _ = some (Value.int .i64 (W : Nat)))
          have x1 := (hB.cell 1).trans (rfl : _ = some (Value.int .u64 (M : Nat)))
          have x2 := (hB.cell 2).trans (rfl : _ = some (Value.bool bg))
          have x3 := (hB.cell 3).trans (rfl : _ = some (Value.int .u64 (l : Nat)))
          have x4 := (hB.cell 4).trans (rfl : _ = some (Value.slice A k cA))
          have HTK : Hid (Calls Try.prog 11 #[.agg #[.int .i64 (W : Nat), .int .u64 (M : Nat), .bool bg, .int .u64 (l : Nat), .slice A k cA], .int .u64 (z : Nat)] w9.drew fun e w' => ∃ A' c', e = .returned (.agg (spRow W M (tk (rst W M zs fs j) z) A' (k + 1) c')) ∧ Rd w' A' (wv (tk (rst W M zs fs j) z).2) ∧ Below w9.drew.heap.size w9.drew w' ∧ Hi w9.drew.heap.size A' ∧ Lo A' w') := Lib.hid (by
            have h := take2_any W M z k cA A (rst W M zs fs j) HSD.out.len (rst_len W M zs fs hj HN.out HSD.out.len) w9.drew HSD.out.rd
            unfold spRow at h ⊢
            rw [HLET.out.1] at h ⊢
            rw [HLET.out.2.1, HLET.out.2.2] at h
            exact h)
          clear hB HCT
          have L9 : w9.drew.heap.size = w9.heap.size := rfl
          go_wp2_with fail
          clear d0
          refine wp_region_still_tail 5 (by kernel_rfl) (by kernel_rfl) ?_
          simp only [List.take_succ_cons, List.take_zero, List.drop_succ_cons, List.drop_zero]
          change wpStill _ _ (World.drew w9) (fun a => wpList _ _ _ _ a (World.drew w9)) _ _
          generalize World.drew w9 = wd at *
          repeat still_step
          refine wpStill_nil ?_
          go_wp2_with fail
          refine HTK.out.mono ?_
          rintro e w10 ⟨A3, c4, rfl, hr3, hb3, hi3, hl3⟩
          have hk10 := HSD.out.blk.keep hb3
          unfold spRow at hk10
          clear x0 x1 x2 x3 x4 hcr HTK
          unfold spRow
          go_wp2_with (with_reducible refine Held.store 38 ?_)
          refine held_store_row (cells := spRow W M (tk (rst W M zs fs j) z) A3 (k + 1) c4) hk10 spInfo rfl rfl rfl (by simp [spRow, Value.oneCell']) fun w11 hk11 hg11 _ => ?_
          have HST := Lib.hid (HSD.out.take (by rw [HZJ.out, HLET.out.1]; exact HFV.out) HAC.out hb3 (by rw [HZJ.out]; exact hr3) hi3 hl3 (by rw [HZJ.out]; exact hk11) hg11)
          clear hr3 hb3 hi3 hl3 hk10 hk11 hg11
          go_wp2_with fail
          go_roundw
          case rel => exact ⟨j + 1, hlt, by rw [jw]; go_num, A3, k + 1, c4, A2, c3, rfl, HST⟩
          case measure => rw [jw]; exact rmeas hlt
    · obtain rfl : j = n := by omega
      go_wp2_with fail
      go_ret
      exact ⟨A', c', rfl, HS.out.own.rd, HS.out.below⟩
/-! ### two lists of answers that are alike -/
theorem eqB_any (x : Bool) (w : World) : Calls Try.prog 8 #[.bool x, .bool x] w fun e w' => e = .returned (.bool true) ∧ w = w' := by
  cases x <;> (go_enter Try.func8, Try.ntmps8; go_wp2_with fail; go_ret; exact ⟨rfl, rfl⟩)
set_option maxHeartbeats 1000000 in
theorem listB_any (A1 A2 : Option Addr) (n c1 c2 : Nat) (l : List Bool) (hl : l.length = n) (hn : n ≤ 300) (w : World) (hr1 : Rd w A1 (bv l)) (hr2 : Rd w A2 (bv l)) :
    Calls Try.prog 7 #[.slice A1 n c1, .slice A2 n c2, .func (Fn.func 8) #[] #[]] w fun e w' => e = .returned (.bool true) ∧ Below w.heap.size w w' := by
  have HR1 := Lib.hid hr1
  have HR2 := Lib.hid hr2
  have HL := Lib.hid hl
  have HN := Lib.hid hn
  clear hr1 hr2 hl hn
  go_enter Try.func7, Try.ntmps7
  go_wp2_with fail
  go_loopw [15] (fun i wr => ∃ j : Nat, j ≤ n ∧ i = .int .i64 j ∧ Hid (Below w.heap.size w wr)) (fun i _ => n - (intOf i).toNat)
  case atStart => exact ⟨0, Nat.zero_le _, rfl, Lib.hid (Below.refl _ _)⟩
  case round =>
    obtain ⟨j, hj, rfl, HB⟩ := hrel
    by_cases hlt : j < n
    · have hne : bv l ≠ [] := fun h => by have := congrArg List.length h; rw [bv_length, HL.out] at this; simp at this; omega
      obtain ⟨b1, o1, rfl, q1⟩ := HR1.out.resolve_left hne
      obtain ⟨b2, o2, rfl, q2⟩ := HR2.out.resolve_left hne
      have HX : Hid (∀ w', Below wr.heap.size wr w' → w'.cell? ⟨b1, o1 + j, none⟩ = some (.bool (l.getD j false)) ∧ w'.cell? ⟨b2, o2 + j, none⟩ = some (.bool (l.getD j false))) := Lib.hid (fun w' hb => ⟨bv_at (HR1.out.keep (below_two HB.out hb)) j (by rw [HL.out]; exact hlt), bv_at (HR2.out.keep (below_two HB.out hb)) j (by rw [HL.out]; exact hlt)⟩)
      obtain ⟨x, hx⟩ : ∃ x, l.getD j false = x := ⟨_, rfl⟩
      rw [hx] at HX
      have jw : wrap64 ((j : Int) + 1) = (j : Int) + 1 := by have := HN.out; unfold wrap64; omega
      have jn : (j : Int) < n := by omega
      clear hx q1 q2 hne
      go_wp2_with fail
      go_region_held_law (fun w' => w'.cell? ⟨b1, o1 + j, none⟩ = some (.bool x) ∧ w'.cell? ⟨b2, o2 + j, none⟩ = some (.bool x)) (first | exact HX.out _ (below_drew _) | exact HX.out _ (Below.refl _ _))
        (first | (go_at_call 8; with_reducible refine (eqB_any x _).mono ?_; rintro e w' ⟨rfl, rfl⟩))
      all_goals
        go_wp2_with fail
        go_roundw
        case rel => exact ⟨j + 1, hlt, by rw [jw]; go_num, Lib.hid (below_two HB.out (by first | exact below_drew _ | exact Below.refl _ _))⟩
        case measure => rw [jw]; exact rmeas hlt
    · obtain rfl : j = n := by omega
      go_wp2_with fail
      go_ret
      exact ⟨rfl, HB.out⟩
end Go.Proofs.Ytkjnmmephhlkgaa
