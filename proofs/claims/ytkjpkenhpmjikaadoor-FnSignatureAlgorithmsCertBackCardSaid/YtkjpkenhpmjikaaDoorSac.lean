/- Walks: a list of signature schemes, read. -/
import Derived.Test.YtkjpkenhpmjikaaDoorAlgU
import Derived.Test.YtkjpkenhpmjikaaDoorGroupsOk
import Derived.Outline
namespace Go.Proofs.YtkjpkenhpmjikaaDoor
open Go.RowKit Go.Cv
set_option maxRecDepth 100000
set_option linter.unusedVariables false
theorem algInfo : (Tryd.prog.info? 201).map (fun i => (i.zero, i.size, i.bytes)) = some (some (.agg #[.int .u16 0, .int .u16 0]), 2, 4) := by kernel_rfl
/-- The row h, or one at or above base. -/
def Hx (h base : Nat) (A : Option Addr) : Prop := ∃ a, A = some ⟨a, 0, none⟩ ∧ (a = h ∨ base ≤ a)
theorem Hx.away {h base : Nat} {A : Option Addr} {L : List Nat} (hx : Hx h base A) (hL : ∀ k ∈ L, k < base ∧ k ≠ h) : A = none ∨ ∃ a, A = some ⟨a, 0, none⟩ ∧ a ∉ L := by
  obtain ⟨a, rfl, ha⟩ := hx
  exact .inr ⟨a, rfl, fun hm => by have := hL a hm; omega⟩
theorem Hx.notin {h base g : Nat} {A : Option Addr} (hx : Hx h base A) (hg : g < base) (hn : g ≠ h) : g ∉ (A.map (·.block)).toList := by
  obtain ⟨a, rfl, ha⟩ := hx
  simp; omega
theorem Hx.inn {h base : Nat} {A : Option Addr} (hx : Hx h base A) : ∀ k ∈ (A.map (·.block)).toList, k = h ∨ base ≤ k := by
  obtain ⟨a, rfl, ha⟩ := hx
  simp; omega
theorem Hx.new {h base b c c' : Nat} {A A' : Option Addr} (hx : Hx h base A) (hn : (A' = A ∧ c' = c) ∨ A' = some ⟨b, 0, none⟩) (hb : base ≤ b) : Hx h base A' := by
  rcases hn with ⟨rfl, _⟩ | rfl
  · exact hx
  · exact ⟨_, rfl, .inr hb⟩
theorem code_lt {h s : Nat} (ok : OkP h s) : code h s < 65536 := by
  unfold code
  rcases ok.split with h | h
  · rw [if_neg (by omega)]; omega
  · rw [if_pos (by omega)]; omega
theorem code_at (zs : List (Nat × Nat)) (j h s : Nat) (hv : zs[j]? = some (h, s)) (ok : OkP h s) : ∃ x y, (flat 2 (codes zs)).drop (2 * j) = x :: y :: (flat 2 (codes zs)).drop (2 * (j + 1)) ∧ UInt8.toNat x * 256 + UInt8.toNat y = code h s := by
  have hj := (List.getElem?_eq_some_iff.1 hv).1
  have hjc : j < (codes zs).length := by unfold codes; rw [List.length_map]; exact hj
  have e : (codes zs).getD j 0 = code h s := by
    rw [List.getD_eq_getElem?_getD]
    unfold codes
    rw [List.getElem?_map, hv]
    rfl
  obtain ⟨x, y, r, h1, h2⟩ := flat_at (codes zs) j hjc (by rw [e]; exact code_lt ok)
  rw [e] at h2
  refine ⟨x, y, ?_, h2⟩
  have h3 : (flat 2 (codes zs)).drop (2 * (j + 1)) = r := by
    have := congrArg (List.drop 2) h1
    rw [List.drop_drop] at this
    simpa [Nat.mul_add] using this
  rw [h3]; exact h1
theorem pv_snoc (zs : List (Nat × Nat)) (j h s : Nat) (hv : zs[j]? = some (h, s)) : pv (zs.take j) ++ [Value.int .u16 h, Value.int .u16 s] = pv (zs.take (j + 1)) := by
  obtain ⟨hl, hv2⟩ := List.getElem?_eq_some_iff.1 hv
  rw [List.take_succ_eq_append_getElem hl, hv2]
  simp [pv]
set_option maxHeartbeats 4000000 in
theorem sac_ok (t g b c h0 : Nat) (l : List UInt8) (x y u v : UInt8) (zs : List (Nat × Nat)) (k : Nat) (ht : t ≤ 100) (p0 p1 : UInt8) (hp : p0.toNat * 256 + p1.toNat = t) (hl : l = p0 :: p1 :: x :: y :: u :: v :: flat 2 (codes zs)) (hxy : x.toNat * 256 + y.toNat = k * 2 + 2) (huv : u.toNat * 256 + v.toNat = k * 2) (hkk : zs.length = k) (hk1 : k < 1000) (hz : Sch zs) (w : World)
    (hk : Blk w g 140 #[.slice (some ⟨h0, 0, none⟩) 0 0]) (hr : Rd w (some ⟨b, 0, none⟩) (vs l)) (hlc : l.length ≤ c) (hbs : b < w.heap.size) (hgb : g ≠ b) (h0s : h0 < w.heap.size) (h0g : h0 ≠ g) (h0b : h0 ≠ b) :
    Calls Tryd.prog 106 #[.int .u16 t, .slice (some ⟨b, 0, none⟩) l.length c, .pointer (some ⟨g, 0, none⟩)] w fun e w' =>
      e = .returned .nilIface ∧ ∃ A' c', Blk w' g 140 #[.slice A' k c'] ∧ Rd w' A' (pv zs) ∧ Tch [g, h0] w w' := by
  have hgs := hk.lt
  obtain ⟨F, hF⟩ : ∃ F, flat 2 (codes zs) = F := ⟨_, rfl⟩
  have hFl : F.length = k * 2 := by rw [← hF, flat_length]; unfold codes; rw [List.length_map, hkk]
  obtain ⟨s, hs⟩ : ∃ s, s = u :: v :: F := ⟨_, rfl⟩
  rw [hF] at hl
  have hsl : s.length = k * 2 + 2 := by rw [hs]; simp [hFl]
  have hll : l.length = s.length + 4 := by rw [hl, hs]; simp
  have hl' : l = p0 :: p1 :: (x :: y :: s) := by rw [hl, hs]
  have HM : Hid ((l.length : Int) ≤ 3000000000) := Lib.hid (by omega)
  have LM : Hid ((s.length : Int) ≤ 3000000000) := Lib.hid (by omega)
  have HXL : Hid (((x :: y :: s).length : Int) ≤ 3000000000) := Lib.hid (by simp; omega)
  have HXY : Hid (x.toNat * 256 + y.toNat = s.length) := Lib.hid (by omega)
  have HUV : Hid (u.toNat * 256 + v.toNat = F.length) := Lib.hid (by omega)
  have hS := Lib.hid ((Str.start (t := 168) hr hlc hbs).alloc (.cells #[.int .u16 0] 24))
  have hQ := Blk.new (w.alloc (.cells #[.slice (some ⟨b, 0, none⟩) l.length c] 168)) 24 #[.int .u16 0]
  simp only [World.size_alloc] at hQ
  have HQ := Lib.hid hQ
  have HL := Lib.hid hl'
  have HSE := Lib.hid hs
  have HFF := Lib.hid hF
  have HFL := Lib.hid hFl
  have HKK := Lib.hid hkk
  have HZ := Lib.hid hz
  have HPT := Lib.hid hp
  have HK1 : Hid ((k : Int) ≤ 1000) := Lib.hid (by omega)
  have HK := Lib.hid ((hk.alloc (.cells #[.slice (some ⟨b, 0, none⟩) l.length c] 168)).alloc (.cells #[.int .u16 0] 24))
  clear hl hl' hr hk hQ hs hsl hll hxy huv hFl hF hkk hz hk1 hp
  go_enter Tryd.func106, Tryd.ntmps106
  go_wp2_with fail
  refine (strU16_ok w.heap.size b (w.heap.size + 1) l (x :: y :: s) p0 p1 HL.out 0 _ hS.out (by omega) HQ.out (by omega) (by omega) HM.out).mono ?_
  rintro e w1 ⟨rfl, hs1, hq1, ht1⟩
  rw [HPT.out] at hq1
  have hk1 := HK.out.tch ht1 (by simp; omega)
  have T1 : Tch [g, h0] w w1 := (((Tch.alloc w _).trans (Tch.alloc _ _)).more (by simp)).then ht1 (by simp)
  have q1 := hq1.cell 0
  simp at q1
  have L1 := T1.size
  have L1b := hs1.lt
  have HS1 := Lib.hid hs1
  have HK1' := Lib.hid hk1
  have HT1 := Lib.hid T1
  clear hS HQ HK ht1 hs1 hq1 T1 hk1
  go_wp2_with fail
  refine (str16_ok w.heap.size b w1.heap.size (x :: y :: s) s s [] x y s.length rfl HXY.out (by simp) rfl (.slice none 0 0) _ (HS1.out.alloc _) (by omega) (Blk.new _ _ _) (by omega) (by omega) HXL.out).mono ?_
  rintro e w2 ⟨rfl, hs2, _, ht2⟩
  have hk2 := (HK1'.out.alloc _).tch ht2 (by simp; omega)
  have T2 := (HT1.out.then (Tch.alloc w1 _) (by simp)).then ht2 (by simp; omega)
  have L2 := T2.size
  have L2b := hs2.lt
  have HS2 := Lib.hid hs2
  have HK2 := Lib.hid hk2
  have HT2 := Lib.hid T2
  clear HS1 HK1' HT1 hs2 hk2 T2 ht2 q1
  go_wp2_with fail
  refine (str16_ok w1.heap.size b w2.heap.size s F F [] u v F.length HSE.out HUV.out (by simp) rfl (.slice none 0 0) _ (HS2.out.alloc _) (by omega) (Blk.new _ _ _) (by omega) (by omega) LM.out).mono ?_
  rintro e w3 ⟨rfl, hs3, hp3, ht3⟩
  have hk3 := (HK2.out.alloc _).tch ht3 (by simp; omega)
  have T3 := (HT2.out.then (Tch.alloc w2 _) (by simp)).then ht3 (by simp; omega)
  have L3 := T3.size
  have L3b := hs3.lt
  obtain ⟨oE, cE, hcE, hnE, hrE⟩ := hp3.cell
  simp at hcE
  have P3 := Lib.hid hs3
  have P0 := Lib.hid hk3
  have P2 := Lib.hid T3
  clear HS2 HK2 HT2 hs3 hk3 T3 ht3 hp3 hrE
  go_wp2_with fail
  refine (strEmpty_any _ _ _ _).mono ?_
  rintro e w7 ⟨rfl, rfl⟩
  go_wp2_with fail
  go_loopw [11] (fun _ wr => ∃ j : Nat, j ≤ k ∧ ∃ A c', Hx h0 w3.heap.size A ∧ Blk wr g 140 #[.slice A j c'] ∧ Own wr 0 2 A j c' (pv (zs.take j)) ∧ Tch [g, h0] w wr ∧ w3.heap.size ≤ wr.heap.size ∧ Str wr 168 w2.heap.size b (F.drop (2 * j))) (fun _ wr => leftAt w2.heap.size wr)
  case atStart => exact ⟨0, Nat.zero_le _, _, 0, ⟨h0, rfl, .inl rfl⟩, P0.out, Own.empty _ _ _ _, P2.out, Nat.le_refl _, P3.out⟩
  case round =>
    clear P0 P2 P3 hcE
    obtain ⟨j, hj, A, c', hA, hkr, hor, htr, LR3, hpr⟩ := hrel
    have LR := htr.size
    have LP := hpr.lt
    have HKR := Lib.hid hkr
    have HOR := Lib.hid hor
    have HTR := Lib.hid htr
    clear hkr hor htr
    by_cases hlt : j < k
    · obtain ⟨⟨hh, ss⟩, hv⟩ : ∃ p, zs[j]? = some p := ⟨_, List.getElem?_eq_getElem (by rw [HKK.out]; exact hlt)⟩
      have hok := Lib.hid (HZ.out _ (List.mem_of_getElem? hv))
      obtain ⟨x', y', hd, hxy'⟩ := code_at zs j hh ss hv hok.out
      rw [HFF.out] at hd
      have hll := hpr.left
      have HLL := Lib.hid hll
      obtain ⟨d, hdd⟩ : ∃ d, F.drop (2 * j) = d := ⟨_, rfl⟩
      obtain ⟨r, hrr⟩ : ∃ r, F.drop (2 * (j + 1)) = r := ⟨_, rfl⟩
      rw [hdd, hrr] at hd
      rw [hdd] at hpr
      have hdl : (d.length : Int) ≤ 3000000000 := by
        have h1 := congrArg List.length hdd
        have h2 := HFL.out
        have h3 := HK1.out
        rw [List.length_drop] at h1
        omega
      have hed : decide (d.length = 0) = false := by rw [hd]; rfl
      obtain ⟨o9, c9, hc9, hn9, hr9⟩ := hpr.cell
      have HD := Lib.hid hd
      have HDL := Lib.hid hdl
      have HRR := Lib.hid hrr
      have HPR := Lib.hid hpr
      have HV := Lib.hid hv
      have HCD := Lib.hid hxy'
      clear hd hdl hrr hpr hr9 hll hv hxy'
      go_wp2_with fail
      refine (strEmpty_any _ _ _ _).mono ?_
      rintro e w9 ⟨rfl, rfl⟩
      rw [hed]
      go_wp2_with fail
      have L10 : w2.heap.size < wr.heap.size := by omega
      have L11 : b < wr.heap.size := by omega
      refine (strU16_ok w2.heap.size b wr.heap.size d r x' y' HD.out 0 _ (HPR.out.alloc _) (by omega) (Blk.new _ _ _) (by omega) (by omega) HDL.out).mono ?_
      rintro e wA ⟨rfl, hpA, hqA, htA⟩
      rw [HCD.out] at hqA
      have TA : Tch [w2.heap.size] wr wA := ((Tch.alloc wr _).more (by simp)).then htA (by simp)
      have hkA := HKR.out.tch TA (by simp; omega)
      have qA := hqA.cell 0
      simp at qA
      have LA := TA.size
      have LAq := hqA.lt
      have HPA := Lib.hid hpA
      have HTA := Lib.hid TA
      have HKA := Lib.hid hkA
      clear hpA hqA htA TA hkA hc9
      go_wp2_with fail
      refine (algUnm_ok wA.heap.size hh ss hok.out _ _ _ (Blk.new wA 201 #[.int .u16 0, .int .u16 0])).mono ?_
      rintro e wB ⟨rfl, haB, htB⟩
      have TB : Tch [] wA wB := (Tch.alloc wA _).then htB (by simp)
      have hkB := HKA.out.tch TB (by simp)
      have kB := hkB.cell 0
      have aB0 := haB.cell 0
      have aB1 := haB.cell 1
      simp at kB aB0 aB1
      have LB := TB.size
      have LBa := haB.lt
      have HTB := Lib.hid (HTA.out.then TB (by simp))
      have HPB := Lib.hid (HPA.out.tch TB (by simp) (by simp))
      have HKB := Lib.hid hkB
      clear haB htB TB hkB HKA HPA HTA qA
      go_wp2_with fail
      have HOB : Hid (∀ w', Below wB.heap.size wB w' → Own w' 0 2 A j c' (pv (zs.take j))) := fun w' h => (HOR.out.tch HTB.out (hA.away (by simp; omega))).keep h
      have jk : j + 1 ≤ 1000 := by have := HK1.out; omega
      have jk' : (j : Int) + 1 ≤ 1000 := by omega
      have LG : g < wB.heap.size := by omega
      go_region_law (refine step_append rfl (.tmp 47) (.tmp 49) 138 138 rfl 0 201 _ 2 4 Tryd.underlying138 (.inl Tryd.underlying138) algInfo rfl (by omega) (xs := pv (zs.take j)) (ys := [.int .u16 hh, .int .u16 ss]) rfl rfl (HOB.out _ (by (repeat (first | assumption | exact Below.refl _ _ | refine Below.drew ?_ | refine Below.setCell ?_ (by first | omega | (simp; done) | (simp; omega)) _ | refine Below.alloc ?_ (by first | omega | (simp; done) | (simp; omega)) _)))) ⟨rfl, by intro v h; simp at h; rcases h with rfl | rfl <;> rfl, .inl ⟨_, _, rfl, rd_pair _ _ _ _⟩⟩ (by omega) (by simp only [maxLen]; omega) (Nat.zero_le _) ?_; intro A2 c2 w9 hO9 hg9 hor9; have t9 : Tch (A.map (·.block)).toList wB w9 := ((((Tch.drew wB).trans (Tch.alloc _ _)).more (by simp))).trans (Tch.grown hg9); have hk9 := HKB.out.tch t9 (hA.notin (by omega) (by omega)); have q9 := hk9.cell 0; have f9 := hk9.frozen 0; simp at q9)
      all_goals
        have TS := Tch.set w9 g 0 (.slice A2 (j + 1) c2)
        have hA2 : Hx h0 w3.heap.size A2 := hA.new hor9 (by simp; omega)
        have HK9 := Lib.hid hk9
        have HO9 := Lib.hid (hO9.tch TS (hA2.away (by simp; omega)))
        have HT9 := Lib.hid (((HTR.out.then HTB.out (by simp; omega)).then t9 (fun k hk => (hA.inn k hk).elim (fun h => .inl (by simp [h])) (fun h => .inr (by omega)))).trans (TS.more (by simp)))
        have HP9 := Lib.hid ((HPB.out.tch t9 (hA.notin (by omega) (by omega)) (hA.notin (by omega) (by omega))).tch TS (by simp; omega) (by simp; omega))
        have L9 := t9.size
        have L9s := TS.size
        clear hO9 hg9 hor9 t9 hk9 q9 f9
        go_roundw
        case rel =>
          have hO := HO9.out
          rw [pv_snoc zs j hh ss HV.out] at hO
          repeat apply Exists.intro
          refine ⟨⟨j + 1, by omega, A2, c2, hA2, by simpa using HK9.out.set_ 0 (.slice A2 (j + 1) c2), hO, HT9.out, by omega, ?_⟩, rfl⟩
          rw [HRR.out]
          exact HP9.out
        case measure =>
          rw [HP9.out.left, HLL.out]
          have h1 := congrArg List.length HRR.out
          have h2 := HFL.out
          rw [List.length_drop] at h1
          rw [List.length_drop]
          omega
    · obtain rfl : j = k := by omega
      have hd : F.drop (2 * j) = [] := List.drop_eq_nil_of_le (by have := HFL.out; omega)
      have ht : zs.take j = zs := List.take_of_length_le (by rw [HKK.out]; exact Nat.le_refl _)
      rw [hd] at hpr
      obtain ⟨o9, c9, hc9, hn9, hr9⟩ := hpr.cell
      simp at hc9
      have HHT := Lib.hid ht
      clear hd ht hpr hr9
      go_wp2_with fail
      refine (strEmpty_any _ _ _ _).mono ?_
      rintro e w9 ⟨rfl, rfl⟩
      go_wp2_with fail
      go_ret
      have h := HOR.out
      rw [HHT.out] at h
      exact ⟨rfl, _, _, HKR.out, h.rd, HTR.out⟩
end Go.Proofs.YtkjpkenhpmjikaaDoor
