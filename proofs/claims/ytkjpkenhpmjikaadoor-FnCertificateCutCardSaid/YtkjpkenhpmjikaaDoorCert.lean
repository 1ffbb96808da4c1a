/- Walks: certificates, read. -/
import Derived.Test.YtkjpkenhpmjikaaDoorElems
import Derived.Test.YtkjpkenhpmjikaaDoorU24
import Derived.Test.YtkjpkenhpmjikaaDoorExt
import Derived.IntWalk
import Derived.Outline
namespace Go.Proofs.YtkjpkenhpmjikaaDoor
open Go.RowKit Go.Cv
set_option maxRecDepth 100000
set_option linter.unusedVariables false
theorem wrap_any (x : Int) (h0 : 0 ≤ x) (h : x ≤ 1000000) : wrap64 x = x ∧ IntKind.i64.wrap x = x := ⟨by unfold wrap64; omega, IntWalk.i64_in _ (by omega)⟩
/-- Texts, each with its length in three bytes ahead. -/
def txt (zs : List (List UInt8)) : List UInt8 := zs.flatMap fun x => be 3 x.length ++ x
theorem txt_cons (x : List UInt8) (r : List (List UInt8)) : txt (x :: r) = be 3 x.length ++ (x ++ txt r) := by
  unfold txt; rw [List.flatMap_cons, List.append_assoc]
theorem txt_append (a b : List (List UInt8)) : txt (a ++ b) = txt a ++ txt b := by unfold txt; rw [List.flatMap_append]
theorem txt_drop (zs : List (List UInt8)) (j : Nat) : (txt zs).drop (txt (zs.take j)).length = txt (zs.drop j) := by
  conv => lhs; rw [← List.take_append_drop j zs]
  rw [txt_append]
  rw [show (txt (zs.take j ++ zs.drop j |>.take j)).length = (txt (zs.take j)).length from by rw [List.take_append_drop]]
  exact List.drop_left
theorem be3_parts (n : Nat) (h : n < 16777216) : ∃ x y z : UInt8, be 3 n = [x, y, z] ∧ x.toNat * 65536 + y.toNat * 256 + z.toNat = n :=
  ⟨UInt8.ofNat (n / 65536), UInt8.ofNat (n / 256), UInt8.ofNat n, by simp [be], by simp; omega⟩
theorem new_row {w0 w' : World} {B n c' h : Nat} {A : Option Addr} {xs : List Value} (hn : 0 < n) (hO : Own w' B 1 A (0 + n) c' xs) (ho : (A = some ⟨h, 0, none⟩ ∧ c' = 0) ∨ A = some ⟨(w0.alloc (.cells #[] 5)).heap.size, 0, none⟩) : A = some ⟨w0.heap.size + 1, 0, none⟩ := by
  rcases ho with ⟨_, h0⟩ | h0
  · have := hO.2.1
    omega
  · rw [h0, World.size_alloc]
theorem cert_no1 (g b c : Nat) (l : List UInt8) (hl : l.length < 3) (ad : Addr) (w : World) (hg : w.cell? ⟨12, 0, none⟩ = some (.iface 210 (.pointer (some ad)))) :
    Calls Tryd.prog 75 #[.pointer (some ⟨g, 0, none⟩), .slice (some ⟨b, 0, none⟩) l.length c] w fun e w' =>
      e = .returned (.iface 210 (.pointer (some ad))) ∧ Below w.heap.size w w' := by
  have h1 : decide ((l.length : Int) < 3) = true := by simp; omega
  clear hl
  go_enter Tryd.func75, Tryd.ntmps75
  go_wp2_with fail
  go_ret
  exact ⟨rfl, Below.refl _ _⟩
theorem cert_no2 (g b c : Nat) (l r : List UInt8) (x y z : UInt8) (hl : l = x :: y :: z :: r) (N n : Nat) (hn : l.length = n) (hN : x.toNat * 65536 + y.toNat * 256 + z.toNat = N) (hN6 : N ≤ 60000) (hne : N + 3 ≠ n) (ad : Addr) (w : World) (hr : Rd w (some ⟨b, 0, none⟩) (vs l)) (hg : w.cell? ⟨13, 0, none⟩ = some (.iface 210 (.pointer (some ad)))) :
    Calls Tryd.prog 75 #[.pointer (some ⟨g, 0, none⟩), .slice (some ⟨b, 0, none⟩) l.length c] w fun e w' =>
      e = .returned (.iface 210 (.pointer (some ad))) ∧ Below w.heap.size w w' := by
  have h1 : decide ((n : Int) < 3) = false := by
    have : l.length = r.length + 3 := by rw [hl]; simp
    simp; omega
  have hr3 : Rd w (some ⟨b, 0, none⟩) (vs [x, y, z]) := by
    have := hr.take 3
    rw [← vs_take, hl] at this
    exact this
  have h2 : (((N : Int) + 3) != (n : Int)) = true := by simp; omega
  have HC := Lib.hid (u24_get (some ⟨b, 0, none⟩) n c x y z (N : Int) (by rw [← hN]) (by simp at h1; omega) w hr3)
  have n0 : (0 : Int) ≤ N := by omega
  have n1 : (N : Int) ≤ 60000 := by omega
  rw [hn]
  clear hl hn hN hN6 hne hr hr3
  go_enter Tryd.func75, Tryd.ntmps75
  go_wp2_with fail
  refine HC.out.mono ?_
  rintro e w1 ⟨rfl, hb1⟩
  have hg1 := keep_of_below hb1 _ _ hg
  go_wp2_with fail
  go_ret
  exact ⟨rfl, hb1⟩
theorem bytesInfo : (Tryd.prog.info? 54).map (fun i => (i.zero, i.size, i.bytes)) = some (some (.slice none 0 0), 1, 24) := by kernel_rfl
theorem txt_count (zs : List (List UInt8)) (h : ∀ v ∈ zs, 0 < List.length v) : 4 * zs.length ≤ (txt zs).length := by
  induction zs with
  | nil => simp [txt]
  | cons x r ih =>
    have h1 := ih (fun v hv => h v (List.mem_cons_of_mem _ hv))
    have h2 := h x (List.mem_cons_self ..)
    rw [txt_cons, List.length_append, List.length_append, be_length, List.length_cons]
    omega
theorem txt_at (zs : List (List UInt8)) (j : Nat) (hj : j < zs.length) : ∃ x r, zs[j]? = some x ∧ (txt zs).drop (txt (zs.take j)).length = be 3 x.length ++ (x ++ r) ∧ (txt (zs.take (j + 1))).length = (txt (zs.take j)).length + 3 + x.length ∧ (txt (zs.take (j + 1))).length ≤ (txt zs).length := by
  refine ⟨zs[j], txt (zs.drop (j + 1)), List.getElem?_eq_getElem hj, ?_, ?_, ?_⟩
  · rw [txt_drop, List.drop_eq_getElem_cons hj, txt_cons]
  · rw [List.take_succ_eq_append_getElem hj, txt_append, List.length_append, txt_cons]
    simp [be_length, txt]
    omega
  · have h := congrArg (fun z => (txt z).length) (List.take_append_drop (j + 1) zs)
    simp only [txt_append, List.length_append] at h
    omega
set_option maxHeartbeats 4000000 in
theorem cert_ok (g b c : Nat) (l : List UInt8) (x y z : UInt8) (zs : List (List UInt8)) (hl : l = x :: y :: z :: txt zs) (N k : Nat) (hN : x.toNat * 65536 + y.toNat * 256 + z.toNat = N) (hNt : (txt zs).length = N) (hN6 : N ≤ 60000) (hkk : zs.length = k) (hz : ∀ v ∈ zs, 0 < List.length v) (x0 : Value) (w : World)
    (hk : Blk w g 146 #[x0]) (hr : Rd w (some ⟨b, 0, none⟩) (vs l)) (hlc : l.length ≤ c) (hbs : b < w.heap.size) (hgb : g ≠ b) :
    Calls Tryd.prog 75 #[.pointer (some ⟨g, 0, none⟩), .slice (some ⟨b, 0, none⟩) l.length c] w fun e w' =>
      e = .returned .nilIface ∧ ∃ A' c' xs, Blk w' g 146 #[.slice A' k c'] ∧ Own w' w.heap.size 1 A' k c' xs ∧ Elems w.heap.size A' w' xs ∧ w.grownBy w' (some g) := by
  have hgs := hk.lt
  have hll : l.length = N + 3 := by rw [hl]; simp [hNt]
  obtain ⟨n, hn⟩ : ∃ n, l.length = n := ⟨_, rfl⟩
  have hr3 : Rd w (some ⟨b, 0, none⟩) (vs [x, y, z]) := by
    have := hr.take 3
    rw [← vs_take, hl] at this
    exact this
  have h1 : decide ((n : Int) < 3) = false := by simp; omega
  have h2 : (((N : Int) + 3) != (n : Int)) = false := by simp; omega
  have HC := Lib.hid (u24_get (some ⟨b, 0, none⟩) n c x y z (N : Int) (by rw [← hN]) (by omega) w hr3)
  have n0 : (0 : Int) ≤ N := by omega
  have n1 : (N : Int) ≤ 60000 := by omega
  have n2 : (n : Int) ≤ 60003 := by omega
  have n3 : (n : Int) ≤ c := by omega
  have HL := Lib.hid hl
  have HNN : Hid (n = N + 3) := Lib.hid (by omega)
  have HNT := Lib.hid hNt
  have HKB : Hid (4 * k ≤ N) := Lib.hid (by rw [← hkk, ← hNt]; exact txt_count zs hz)
  have HKK := Lib.hid hkk
  have HZ := Lib.hid hz
  have HR := Lib.hid hr
  have HKW := Lib.hid hk
  rw [hn]
  clear hl hN hN6 hr hr3 hll hn hNt hkk hz hlc hk
  go_enter Tryd.func75, Tryd.ntmps75
  go_wp2_with fail
  refine HC.out.mono ?_
  rintro e w1 ⟨rfl, hb1⟩
  have hk1 := HKW.out.keep hb1
  have k1 := hk1.cell 0
  have f1 := hk1.frozen 0
  simp at k1
  have TS := Tch.set w1 g 0 (.slice none 0 0)
  have P0 : Hid (Blk (w1.setCell ⟨g, 0, none⟩ (.slice none 0 0)) g 146 #[.slice none 0 0]) := Lib.hid (by simpa using hk1.set_ 0 (.slice none 0 0))
  have P2 : Hid (Tch [g] w (w1.setCell ⟨g, 0, none⟩ (.slice none 0 0))) := (Tch.below hb1 [g]).trans TS
  have P3 := Lib.hid ((HR.out.keep hb1).tch TS (by simp; omega))
  clear hk1 TS hb1 HC HR HKW
  go_wp2_with fail
  go_loopw [6, 7] (fun i _ wr => ∃ j o : Nat, j ≤ k ∧ Hid (o = 3 + (txt (zs.take j)).length) ∧ i = .int .i64 o ∧ ∃ A c' xs, Hi w.heap.size A ∧ Lo A wr ∧ Blk wr g 146 #[.slice A j c'] ∧ Own wr w.heap.size 1 A j c' xs ∧ Elems w.heap.size A wr xs ∧ Tch [g] w wr ∧ Rd wr (some ⟨b, 0, none⟩) (vs l)) (fun i _ _ => n - (intOf i).toNat)
  case atStart => exact ⟨0, 3, Nat.zero_le _, Lib.hid (by simp [txt]), rfl, none, 0, [], .inl rfl, Lo.none _, P0.out, Own.nil _ _ _, Elems.nil _ _ _, P2.out, P3.out⟩
  case round =>
    clear P0 P2 P3 k1 f1
    obtain ⟨j, o, hj, ho, rfl, A, c', xs, hA, hlo, hkr, hor, hel, htr, hrr⟩ := hrel
    have LR := htr.size
    have kr := hkr.cell 0
    simp at kr
    have HKR := Lib.hid hkr
    have HOR := Lib.hid hor
    have HEL := Lib.hid hel
    have HTR := Lib.hid htr
    have HRR := Lib.hid hrr
    clear hkr hor hel htr hrr
    by_cases hlt : j < k
    · obtain ⟨v, r, hv, hd, hlen, hle⟩ := txt_at zs j (by rw [HKK.out]; exact hlt)
      obtain ⟨L, hL⟩ : ∃ L, List.length v = L := ⟨_, rfl⟩
      have hv0 : 0 < L := by rw [← hL]; exact HZ.out v (List.mem_of_getElem? hv)
      obtain ⟨o3, ho3⟩ : ∃ o3 : Nat, o + 3 = o3 := ⟨_, rfl⟩
      obtain ⟨e, he⟩ : ∃ e : Nat, o3 + L = e := ⟨_, rfl⟩
      rw [hL] at hlen hd
      have hen : e ≤ n := by have := HNN.out; have := HNT.out; have := ho.out; omega
      have hdo : l.drop o = be 3 L ++ (v ++ r) := by
        rw [HL.out, ho.out, ← List.drop_drop]
        exact hd
      have hdo3 : l.drop o3 = v ++ r := by
        rw [← ho3, ← List.drop_drop, hdo]
        have := List.drop_left (l₁ := be 3 L) (l₂ := v ++ r)
        rwa [be_length] at this
      obtain ⟨p, q, u, hbe, hpq⟩ := be3_parts L (by omega)
      have hrd3 : Rd wr (some ⟨b, o, none⟩) (vs [p, q, u]) := by
        have h := HRR.out.drop o
        rw [← vs_drop, hdo, hbe] at h
        have h2 := h.take 3
        rw [← vs_take] at h2
        simpa [add_lit] using h2
      have HU := Lib.hid (u24_get (some ⟨b, o, none⟩) (n - o) (c - o) p q u (L : Int) (by rw [hpq]) (by omega) wr hrd3)
      have HNX : Hid (e = 3 + (txt (zs.take (j + 1))).length) := Lib.hid (by have := ho.out; omega)
      have s1 : (o : Int) < n := by omega
      have s2 : decide ((n : Int) - o < 3) = false := by simp; omega
      have s3 : (o : Int) ≤ n := by omega
      have s4 : ¬ c = o := by omega
      have s5 : ((L : Int) == 0) = false := by simp; omega
      have s6 : (o : Int) + 3 = (o3 : Int) := by omega
      have s7 : (o3 : Int) + L = (e : Int) := by omega
      have s8 : decide ((n : Int) < (e : Int)) = false := by simp; omega
      have sI : ¬ n < e := by omega
      have sJ : ¬ L = 0 := by omega
      have s9 : (o3 : Int) ≤ 60003 := by omega
      have sA : (e : Int) ≤ 60003 := by omega
      have sB : (L : Int) ≤ 60000 := by omega
      have sC : ¬ c = o3 := by omega
      have sD : (o3 : Int) ≤ e := by omega
      have sE : (e : Int) ≤ c := by omega
      have sF : e - o3 = L := by omega
      have sG : (0 : Int) ≤ L := by omega
      have sH : IntKind.i64.wrap (e : Int) = e := (wrap_any _ (by omega) (by omega)).2
      have hcv : Hid (∀ w', Tch [] wr w' → Rd w' (some ⟨b, o3, none⟩) (vs v)) := fun w' ht => by
        have h := (HRR.out.tch ht (by simp)).drop o3
        rw [← vs_drop, hdo3] at h
        have h2 := h.take L
        rw [← vs_take] at h2
        have e3 : (v ++ r).take L = v := by rw [← hL]; exact List.take_left
        rw [e3] at h2
        simpa [add_lit] using h2
      have HLL := Lib.hid hL
      have HV0 := Lib.hid hv0
      have HEN := Lib.hid hen
      have HJ : Hid (j < 30000) := Lib.hid (by have := HKB.out; omega)
      clear hv hd hlen hle hdo hdo3 hbe hpq hrd3 hL hv0 ho ho3 he hen
      go_wp2_with fail
      refine HU.out.mono ?_
      rintro e' w2 ⟨rfl, hb2⟩
      have kr2 := keep_of_below hb2 _ _ kr
      have LR2 := hb2.size
      have HB2 := Lib.hid hb2
      clear hb2 HU kr
      go_wp2_with fail
      have HJI : Hid ((j : Int) + 1 ≤ 30000) := Lib.hid (by have := HJ.out; omega)
      have LW : w.heap.size ≤ w2.heap.size := by omega
      have LG : g < w2.heap.size := by omega
      go_region_law (first
        | (refine step_append rfl (.tmp 57) (.tmp 63) 54 54 rfl w2.heap.size 5 _ 1 1 Tryd.underlying54 (.inl Tryd.underlying54) u8info rfl (by omega) (xs := []) (ys := vs v) (m := L) rfl rfl (own_made0 w2 5).drew ⟨by rw [vs_length, HLL.out]; omega, vs_one _, .inl ⟨_, _, rfl, hcv.out _ (Tch.below (below_two HB2.out (below_alloc w2 _)).drew [])⟩⟩ (by omega) (by simp only [maxLen]; omega) (by simp) ?_; intro A9 c9 w9 hO9 hg9 hor9; obtain rfl : A9 = some ⟨w2.heap.size + 1, 0, none⟩ := new_row (w0 := w2) HV0.out hO9 hor9; have b9 : Below w2.heap.size w2 w9 := below_append_new (grown_undrew hg9); have k9 := keep_of_below b9 _ _ kr2; have LG9 : g < w9.heap.size := Nat.lt_of_lt_of_le LG b9.size)
        | (refine step_append rfl (.tmp 56) (.tmp 65) 144 144 rfl w.heap.size 54 _ 1 24 Tryd.underlying144 (.inl Tryd.underlying144) bytesInfo rfl (by omega) (xs := xs) (ys := [.slice (some ⟨w2.heap.size + 1, 0, none⟩) L c9]) rfl rfl (((HOR.out.keep HB2.out).keep b9).keep (below_alloc _ _)) ⟨rfl, by intro v h; simp at h; subst h; rfl, .inl ⟨_, _, rfl, rd_single _ _ _⟩⟩ (by have := HJ.out; omega) (by have := HJ.out; simp only [maxLen]; omega) (by have := b9.size; simp; omega) ?_; intro A2 c2 wB hOB hgB horB; have tB : Tch (A.map (·.block)).toList w2 wB := (((Tch.below b9 []).trans (Tch.alloc w9 _)).more (by simp)).trans (Tch.grown hgB); have hkB := (HKR.out.keep HB2.out).tch tB (hA.notin (by omega)); have kB := hkB.cell 0; have fB := hkB.frozen 0; simp at kB))
      all_goals
        have TS := Tch.set wB g 0 (.slice A2 (j + 1) c2)
        have hA2 : Hi w.heap.size A2 := hA.new horB (by have := b9.size; simp; omega)
        have e9 := ((HEL.out.step (Tch.below (below_two HB2.out b9) []) (by simp)).snoc (eb := w2.heap.size + 1) (c := c9) HLL.out (by omega) (hO9.lo (by have := HV0.out; omega) _ rfl) (hlo.ne (by omega)) hO9.rd).step (Tch.alloc w9 (.cells #[.slice (some ⟨w2.heap.size + 1, 0, none⟩) L c9] 54)) (by simp)
        have HE := Lib.hid ((e9.append hgB horB).step TS (by simp; omega))
        have HK := Lib.hid hkB
        have HO := Lib.hid (hOB.tch TS (hA2.away (by simp; omega)))
        have HLO := Lib.hid ((hOB.lo (by omega)).mono TS.size)
        have HT := Lib.hid (((HTR.out.then (Tch.below HB2.out []) (by simp)).then tB (fun k hk => .inr (hA.inn k hk))).trans TS)
        have HRD := Lib.hid (((HRR.out.keep HB2.out).tch tB (hA.notin (by omega))).tch TS (by simp; omega))
        clear TS e9 hO9 hg9 hor9 b9 k9 hOB hgB horB tB hkB kB fB
        go_wp2_with fail
        go_roundw
        case rel => exact ⟨j + 1, e, by omega, HNX, rfl, A2, c2, _, hA2, HLO.out, by simpa using HK.out.set_ 0 (.slice A2 (j + 1) c2), HO.out, HE.out, HT.out, HRD.out⟩
        case measure => simp [intOf]; omega
    · obtain rfl : j = k := by omega
      have hoe : o = n := by
        have h := ho.out
        rw [List.take_of_length_le (by rw [HKK.out]; exact Nat.le_refl _), HNT.out] at h
        have := HNN.out
        omega
      subst hoe
      clear ho
      go_wp2_with fail
      go_ret
      exact ⟨rfl, _, _, _, HKR.out, HOR.out, HEL.out, HTR.out.toGrown⟩
end Go.Proofs.YtkjpkenhpmjikaaDoor
