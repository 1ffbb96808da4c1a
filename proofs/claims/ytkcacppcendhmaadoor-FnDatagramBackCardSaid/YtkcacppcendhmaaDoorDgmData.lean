/- Walks: impl.plain, texts, Datagram; laws.same. -/
import Derived.Test.YtkcacppcendhmaaDoorDgm
namespace Go.Proofs.YtkcacppcendhmaaDoor
open Go.RowKit Go.Cv
set_option maxRecDepth 100000
set_option linter.unusedVariables false
theorem strInfo : (Tryd.prog.info? 9).map (fun i => (i.zero, i.size, i.bytes)) = some (some (.string ByteArray.empty), 1, 16) := by kernel_rfl
def sv (zs : List (List UInt8)) : List Value := zs.map fun l => Value.string (S l)
theorem sv_append (a b : List (List UInt8)) : sv (a ++ b) = sv a ++ sv b := by simp [sv]
theorem textCell {w : World} {b o : Nat} {zs : List (List UInt8)} (h : Rd w (some ⟨b, o, none⟩) (sv zs)) (j : Nat) (v : List UInt8) (hj : zs[j]? = some v) : w.cell? ⟨b, o + j, none⟩ = some (.string (S v)) := by
  rcases h with h | ⟨b', o', hA, h⟩
  · have : zs = [] := by cases zs with
      | nil => rfl
      | cons x r => simp [sv] at h
    rw [this] at hj; simp at hj
  · injection hA with hA
    injection hA with hb ho
    subst hb ho
    exact h j _ (by simp [sv, hj])
theorem inc_wrap {j n : Nat} (hj : j < n) (h : n ≤ 2147483647) : wrap64 ((j : Int) + 1) = (j : Int) + 1 := by unfold wrap64; omega
theorem meas {j n : Nat} (h : j < n) : n - (intOf (Value.int .i64 ((j : Int) + 1))).toNat < n - (intOf (Value.int .i64 (j : Int))).toNat := by simp [intOf]; omega
theorem room16 {j n : Nat} (hj : j < n) (h : n ≤ 2147483647) : (j + 1) * 16 ≤ 140737488355328 ∧ j + 1 ≤ maxLen := by simp only [maxLen]; omega
set_option maxHeartbeats 1000000 in
theorem plain_any (b a n c : Nat) (l : List UInt8) (xs : List Value) (zs : List (List UInt8)) (hk : zs.length = n) (hn : n ≤ 2147483647) (hS : Subs b l xs zs) (w : World) (hr : Rd w (some ⟨a, 0, none⟩) xs) (hl : Rd w (some ⟨b, 0, none⟩) (vs l)) :
    Calls Tryd.prog 15 #[.slice (some ⟨a, 0, none⟩) n c] w fun e w' => ∃ A' c', e = .returned (.slice A' n c') ∧ Rd w' A' (sv zs) ∧ Below w.heap.size w w' := by
  have HR := Lib.hid hr
  have HL := Lib.hid hl
  have HS := Lib.hid hS
  have HK := Lib.hid hk
  have HN := Lib.hid hn
  clear hr hl hS hk hn
  go_enter Tryd.func15, Tryd.ntmps15
  go_wp2_with fail
  go_loopw [3, 8] (fun v i wr => ∃ j : Nat, j ≤ n ∧ i = .int .i64 j ∧ ∃ A' c', Hid (Hi w.heap.size A') ∧ v = .slice A' j c' ∧ Hid (Own wr w.heap.size 1 A' j c' (sv (zs.take j))) ∧ Hid (Below w.heap.size w wr)) (fun _ i _ => n - (intOf i).toNat)
  case atStart => exact ⟨0, Nat.zero_le _, rfl, none, 0, Lib.hid (.inl rfl), rfl, Lib.hid (Own.nil _ _ _), Lib.hid (Below.refl _ _)⟩
  case round =>
    obtain ⟨j, hj, rfl, A', c', hA, rfl, HOR, HBR⟩ := hrel
    have LR := HBR.out.size
    by_cases hlt : j < n
    · obtain ⟨z, hz⟩ : ∃ z, zs[j]? = some z := ⟨_, List.getElem?_eq_getElem (by rw [HK.out]; exact hlt)⟩
      obtain ⟨f, m, c2, hx, hm, hzz⟩ := HS.out.2 j z hz
      have hcell : wr.cell? ⟨a, j, none⟩ = some (.slice (some ⟨b, f, none⟩) m c2) := by
        refine keep_of_below HBR.out _ _ ?_
        rcases HR.out with h | ⟨b', o', hAA, h⟩
        · rw [h] at hx; simp at hx
        · injection hAA with hAA
          injection hAA with hb ho
          subst hb ho
          simpa using h j _ hx
      have hrl : Hid (Rd wr (some ⟨b, f, none⟩) (vs z)) := Lib.hid (by rw [hzz]; exact (HL.out.keep HBR.out).piece f m)
      have HM := Lib.hid hm
      have HZ : Hid (sv (zs.take (j + 1)) = sv (zs.take j) ++ [.string (S z)]) := Lib.hid (by
        obtain ⟨hjl, hx2⟩ := List.getElem?_eq_some_iff.1 hz
        rw [List.take_succ_eq_append_getElem hjl, hx2, sv_append]
        rfl)
      have jw := inc_wrap hlt HN.out
      clear hx hm hzz hz
      go_wp2_with fail
      refine upon_conv_bs 22 9 5 Tryd.underlying22 Tryd.underlying5 Tryd.underlying9 z _ _ _ HM.out hrl.out ?_
      clear hcell
      go_wp2_with (at_builtin; refine Held.on ?_)
      refine held_append rfl (.tmp 12) (.tmp 15) 24 24 rfl w.heap.size 9 _ 1 16 Tryd.underlying24 (.inl Tryd.underlying24) strInfo rfl (by omega) (xs := sv (zs.take j)) (ys := [.string (S z)]) rfl rfl (HOR.out.keep (below_alloc _ _)) ⟨rfl, by intro v h; simp at h; subst h; rfl, .inl ⟨_, _, rfl, rd_single _ _ _⟩⟩ (room16 hlt HN.out).1 (room16 hlt HN.out).2 (by simp; omega) ?_
      intro A2 c3 w9 hO9 hg9 hor9
      have t9 : Tch (A'.map (·.block)).toList wr w9 := ((Tch.alloc wr _).more (by simp)).trans (Tch.grown hg9)
      have hA2 : Hid (Hi w.heap.size A2) := Lib.hid (hA.out.new hor9 (by simp; omega))
      have hb9 : Below w.heap.size w w9 := ((Tch.below HBR.out []).then t9 (fun k hk => .inr (hA.out.inn k hk))).toBelow (Nat.le_refl _)
      rw [← HZ.out] at hO9
      have HO9 := Lib.hid hO9
      have HB9 := Lib.hid hb9
      clear hO9 hg9 hor9 t9 hb9
      go_wp2_with fail
      go_roundw
      case rel => exact ⟨j + 1, hlt, by rw [jw]; go_num, A2, c3, hA2, rfl, HO9, HB9⟩
      case measure => rw [jw]; exact meas hlt
    · obtain rfl : j = n := by omega
      have ht : zs.take j = zs := List.take_of_length_le (by rw [HK.out]; exact Nat.le_refl _)
      have HT := Lib.hid ht
      clear ht
      go_wp2_with fail
      go_ret
      refine ⟨_, _, rfl, ?_, HBR.out⟩
      have := HOR.out.rd
      rwa [HT.out] at this
/-- How a datagram's reading ends. -/
def DPost (l : List UInt8) (w : World) (e : Ending) (w' : World) : Prop :=
  (∃ zs A k c, e = .returned (.tuple #[.slice A k c, .bool true]) ∧ List.length zs = k ∧ 13 * k ≤ l.length ∧ Rd w' A (sv zs) ∧ (∀ ys, Cut l ys ↔ ys = zs) ∧ Below w.heap.size w w') ∨
  (e = .returned (.tuple #[.slice none 0 0, .bool false]) ∧ (∀ ys, ¬ Cut l ys) ∧ Below w.heap.size w w')
theorem texts_no (A : Option Addr) (n c : Nat) (ty : TypeId) (p : Value) (w : World) :
    Calls Tryd.prog 11 #[.slice A n c, .iface ty p] w fun e w' => e = .returned (.tuple #[.slice none 0 0, .bool false]) ∧ w = w' := by
  go_enter Tryd.func11, Tryd.ntmps11
  go_wp2_with fail
  go_ret2
  exact ⟨rfl, rfl⟩
theorem texts_any (b a n c : Nat) (l : List UInt8) (xs : List Value) (zs : List (List UInt8)) (hk : zs.length = n) (hn : n ≤ 2147483647) (hS : Subs b l xs zs) (w : World) (hr : Rd w (some ⟨a, 0, none⟩) xs) (hl : Rd w (some ⟨b, 0, none⟩) (vs l)) :
    Calls Tryd.prog 11 #[.slice (some ⟨a, 0, none⟩) n c, .nilIface] w fun e w' => ∃ A' c', e = .returned (.tuple #[.slice A' n c', .bool true]) ∧ Rd w' A' (sv zs) ∧ Below w.heap.size w w' := by
  have HP := Lib.hid (plain_any b a n c l xs zs hk hn hS w hr hl)
  clear hk hn hS hr hl
  go_enter Tryd.func11, Tryd.ntmps11
  go_wp2_with fail
  refine HP.out.mono ?_
  rintro e w1 ⟨A', c', rfl, h1, h2⟩
  go_wp2_with fail
  go_ret2
  exact ⟨_, _, rfl, h1, h2⟩
theorem datagram_any (l : List UInt8) (hn : l.length ≤ 2147483647) (w : World) (ad : Addr)
    (hg : w.cell? ⟨0, 0, none⟩ = some (.iface 52 (.pointer (some ad)))) :
    Calls Tryd.prog 7 #[.string (S l)] w (DPost l w) := by
  have HLM : Hid (l.length ≤ maxLen) := Lib.hid (by simp only [maxLen]; omega)
  have HN := Lib.hid hn
  have HG := Lib.hid hg
  clear hn hg
  go_enter Tryd.func7, Tryd.ntmps7
  go_wp2_with fail
  refine upon_conv_sb 9 22 5 Tryd.underlying9 Tryd.underlying22 Tryd.underlying5 l HLM.out ?_
  intro c w1 hown hb hlt
  have HU := Lib.hid (unpack_any w.heap.size l.length c l rfl hown.2.1 HN.out w1 ad hown.rd (keep_of_below hb _ _ HG.out))
  have HR := Lib.hid hown.rd
  have HB := Lib.hid hb
  clear hown hb hlt
  go_wp2_with fail
  refine HU.out.mono ?_
  rintro e w2 (⟨zs, xs, a, k, c2, rfl, h1, h2, h3, h4, h5, h6⟩ | ⟨ad, rfl, h2, h3⟩)
  · have HT := Lib.hid (texts_any _ a k c2 l xs zs h1 (by have := HN.out; omega) h4 w2 h3 (HR.out.keep h6))
    have H1 := Lib.hid h1
    have H2 := Lib.hid h2
    have H5 := Lib.hid h5
    have HB2 := Lib.hid (below_two HB.out h6)
    clear h1 h2 h3 h4 h5 h6
    go_wp2_with fail
    refine HT.out.mono ?_
    rintro e w3 ⟨A', c', rfl, h1, h2⟩
    go_wp2_with fail
    go_ret2
    exact .inl ⟨zs, A', k, c', rfl, H1.out, H2.out, h1, H5.out, below_two HB2.out h2⟩
  · have H2 := Lib.hid h2
    have HB2 := Lib.hid (below_two HB.out h3)
    clear h2 h3
    go_wp2_with fail
    refine (texts_no _ _ _ _ _ w2).mono ?_
    rintro e w3 ⟨rfl, rfl⟩
    go_wp2_with fail
    go_ret2
    exact .inr ⟨rfl, H2.out, HB2.out⟩
/-- laws.same: lists of texts. -/
def SamePost (zs ys : List (List UInt8)) (w : World) (e : Ending) (w' : World) : Prop := ∃ d : Bool, e = .returned (.bool d) ∧ (d = true ↔ zs = ys) ∧ Below w.heap.size w w'
theorem same_ne (A B : Option Addr) (n m c d : Nat) (h : ¬ n = m) (w : World) :
    Calls Tryd.prog 8 #[.slice A n c, .slice B m d] w fun e w' => e = .returned (.bool false) ∧ w = w' := by
  go_enter Tryd.func8, Tryd.ntmps8
  go_wp2_with fail
  go_ret
  exact ⟨rfl, rfl⟩
theorem same_nil (A B : Option Addr) (c d : Nat) (w : World) :
    Calls Tryd.prog 8 #[.slice A 0 c, .slice B 0 d] w fun e w' => e = .returned (.bool true) ∧ w = w' := by
  go_enter Tryd.func8, Tryd.ntmps8
  go_wp2_with fail
  refine wp_loop_rounds 1 ?_
  rw [rounds_succ]
  go_wp2_with fail
  go_ret
  exact ⟨rfl, rfl⟩
theorem take_next {zs ys : List (List UInt8)} {j : Nat} {z y : List UInt8} (h : zs.take j = ys.take j) (hz : zs[j]? = some z) (hy : ys[j]? = some y) (e : z = y) : zs.take (j + 1) = ys.take (j + 1) := by
  obtain ⟨h1, h2⟩ := List.getElem?_eq_some_iff.1 hz
  obtain ⟨h3, h4⟩ := List.getElem?_eq_some_iff.1 hy
  rw [List.take_succ_eq_append_getElem h1, List.take_succ_eq_append_getElem h3, h2, h4, h, e]
set_option maxHeartbeats 1000000 in
theorem same_eq (a b o p n c d : Nat) (zs ys : List (List UInt8)) (h1 : zs.length = n) (h2 : ys.length = n) (hn : n ≤ 2147483647) (w : World) (hr : Rd w (some ⟨a, o, none⟩) (sv zs)) (hs : Rd w (some ⟨b, p, none⟩) (sv ys)) :
    Calls Tryd.prog 8 #[.slice (some ⟨a, o, none⟩) n c, .slice (some ⟨b, p, none⟩) n d] w (SamePost zs ys w) := by
  have HR := Lib.hid hr
  have HS := Lib.hid hs
  have H1 := Lib.hid h1
  have H2 := Lib.hid h2
  have HN := Lib.hid hn
  clear hr hs h1 h2 hn
  go_enter Tryd.func8, Tryd.ntmps8
  go_wp2_with fail
  go_loopw [13] (fun i wr => ∃ j : Nat, j ≤ n ∧ i = .int .i64 j ∧ Hid (zs.take j = ys.take j) ∧ Hid (Below w.heap.size w wr)) (fun i _ => n - (intOf i).toNat)
  case atStart => exact ⟨0, Nat.zero_le _, rfl, Lib.hid (by simp), Lib.hid (Below.refl _ _)⟩
  case round =>
    obtain ⟨j, hj, rfl, HE, HB⟩ := hrel
    by_cases hlt : j < n
    · obtain ⟨z, hz⟩ : ∃ z, zs[j]? = some z := ⟨_, List.getElem?_eq_getElem (by rw [H1.out]; exact hlt)⟩
      obtain ⟨y, hy⟩ : ∃ y, ys[j]? = some y := ⟨_, List.getElem?_eq_getElem (by rw [H2.out]; exact hlt)⟩
      have c1 := textCell (HR.out.keep HB.out) j z hz
      have c2 := textCell (HS.out.keep HB.out) j y hy
      have HZ := Lib.hid hz
      have HY := Lib.hid hy
      have jw := inc_wrap hlt HN.out
      clear hz hy
      by_cases he : z = y
      · subst he
        go_wp2_with fail
        go_quiet (fail)
        go_wp2_with fail
        go_roundw
        case rel => exact ⟨j + 1, hlt, by rw [jw]; go_num, Lib.hid (take_next HE.out HZ.out HY.out rfl), Lib.hid (below_drewN HB.out nq)⟩
        case measure => rw [jw]; exact meas hlt
      · have hq : S z ≠ S y := fun h => he (S_inj h)
        have hq2 : ((S z).toList == (S y).toList) = false := by rw [S_toList, S_toList]; simpa using he
        have HNE : Hid (¬ zs = ys) := Lib.hid (fun h => he (by have := HZ.out; rw [h, HY.out] at this; exact (Option.some.inj this).symm))
        clear he
        go_wp2_with fail
        go_quiet (fail)
        go_wp2_with fail
        go_ret
        exact ⟨false, rfl, by simpa using HNE.out, below_drewN HB.out nq⟩
    · obtain rfl : j = n := by omega
      have e1 : zs.take j = zs := List.take_of_length_le (by rw [H1.out]; exact Nat.le_refl _)
      have e2 : ys.take j = ys := List.take_of_length_le (by rw [H2.out]; exact Nat.le_refl _)
      have HE1 := Lib.hid e1
      have HE2 := Lib.hid e2
      clear e1 e2
      go_wp2_with fail
      go_ret
      exact ⟨true, rfl, by have := HE.out; rw [HE1.out, HE2.out] at this; simpa using this, HB.out⟩
theorem sv_addr {w : World} {A : Option Addr} {zs : List (List UInt8)} (h : Rd w A (sv zs)) (h0 : 0 < zs.length) : ∃ b o, A = some ⟨b, o, none⟩ := by
  rcases h with h | ⟨b, o, hA, _⟩
  · cases zs with
    | nil => simp at h0
    | cons x r => simp [sv] at h
  · exact ⟨b, o, hA⟩
theorem same_any (A B : Option Addr) (n m c d : Nat) (zs ys : List (List UInt8)) (h1 : zs.length = n) (h2 : ys.length = m) (hn : n ≤ 2147483647) (w : World) (hr : Rd w A (sv zs)) (hs : Rd w B (sv ys)) :
    Calls Tryd.prog 8 #[.slice A n c, .slice B m d] w (SamePost zs ys w) := by
  by_cases h : n = m
  · subst h
    by_cases h0 : n = 0
    · subst h0
      refine (same_nil A B c d w).mono ?_
      rintro e w' ⟨rfl, rfl⟩
      exact ⟨true, rfl, by rw [List.eq_nil_of_length_eq_zero h1, List.eq_nil_of_length_eq_zero h2]; simp, Below.refl _ _⟩
    · obtain ⟨a, o, rfl⟩ := sv_addr hr (by omega)
      obtain ⟨b, p, rfl⟩ := sv_addr hs (by omega)
      exact same_eq a b o p n c d zs ys h1 h2 hn w hr hs
  · refine (same_ne A B n m c d h w).mono ?_
    rintro e w' ⟨rfl, rfl⟩
    exact ⟨false, rfl, by
      constructor
      · intro h'; cases h'
      · intro h'; exact absurd (by rw [← h1, ← h2, h']) h, Below.refl _ _⟩
end Go.Proofs.YtkcacppcendhmaaDoor
