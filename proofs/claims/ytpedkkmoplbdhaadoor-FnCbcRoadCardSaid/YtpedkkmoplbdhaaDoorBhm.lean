/- Walks: the mark of a block cipher's record, in the library. -/
import Derived.Test.YtpedkkmoplbdhaaDoorHmSum
import Derived.Test.YtpedkkmoplbdhaaDoorU48
import Derived.Test.YtpedkkmoplbdhaaDoorAoG
import Derived.Deep.RegionHeldLaw
namespace Go.Proofs.YtpedkkmoplbdhaaDoor
open Go.RowKit Go.Cv
set_option maxRecDepth 100000
set_option linter.unusedVariables false
theorem hmKeep {w0 w w' : World} {h kind : Nat} {key li : List UInt8} (m : HM w0 w h kind key li) (hb : Below w.heap.size w w') : HM w0 w' h kind key li := by
  obtain ⟨⟨O, I, d1, d2, A1, A2, lo, kl, hbk, hO, D1, D2, g1, g2, g3, g4⟩, hbel⟩ := m
  have hlt := hbk.lt
  exact ⟨⟨O, I, d1, d2, A1, A2, lo, kl, hbk.keep hb, hO.keep hb, D1.keep hb, D2.keep hb, g1, Nat.lt_of_lt_of_le g2 hb.size, g3, g4⟩, hbel.trans (hb.mono (Nat.le_of_lt hlt))⟩
theorem hmLt {w0 w : World} {h kind : Nat} {key li : List UInt8} (m : HM w0 w h kind key li) : h < w.heap.size := by
  obtain ⟨⟨O, I, d1, d2, A1, A2, lo, kl, hbk, _⟩, _⟩ := m
  exact hbk.lt
set_option maxHeartbeats 2000000 in
theorem cbcHmac (g b kind : Nat) (hk : kind < 64) (ct : UInt8) (ep sq : Nat) (mk pl : List UInt8) (A1 A2 : Option Addr) (n1 c1 n2 c2 : Nat) (hn1 : pl.length = n1) (hn2 : mk.length = n2) (hs1 : n1 ≤ 10000) (hs2 : n2 ≤ 10000) (w : World)
    (hb : w.cell? ⟨b, 0, none⟩ = some (.int .i64 (kind : Nat))) (hr1 : Rd w A1 (vs pl)) (hr2 : Rd w A2 (vs mk)) :
    Calls Tryd.prog 77 #[.pointer (some ⟨g, 0, none⟩), .int .u16 (ep : Int), .int .u64 (sq : Int), .int .u8 (ct.toNat : Int), .agg #[.int .u8 254, .int .u8 253], .slice A1 n1 c1, .slice A2 n2 c2, .func (Fn.func 70) #[] #[.pointer (some ⟨b, 0, none⟩)]] w fun e w' =>
      ∃ A' c', e = .returned (.tuple #[.slice A' (toySize kind) c', .nilIface]) ∧ Rd w' A' (vs (toyHmac kind mk (add13 ct 254 253 ep sq n1 ++ pl))) ∧ Below w.heap.size w w' := by
  have HS := Lib.hid (And.intro hn1 (And.intro hs1 (And.intro hr1 hk)))
  have HNH := Lib.hid (fun (W : World) hb hr => newHmac b kind hk A2 n2 c2 mk hn2 (by omega) W hb hr)
  have HR2 := Lib.hid (And.intro hb hr2)
  have e16 : IntKind.u16.wrap (n1 : Int) = (n1 : Int) := by rw [IntKind.wrap_u16]; omega
  have HSU := Lib.hid (fun (w0 w' : World) h hm => hmSum h kind hk mk (add13 ct 254 253 ep sq n1 ++ pl) (by simp [add13, be_length]; omega) w0 w' hm)
  obtain ⟨nk, hnk⟩ : ∃ nk, toySize kind = nk := ⟨_, rfl⟩
  rw [hnk] at HSU ⊢
  clear hn1 hn2 hs1 hs2 hb hr1 hr2 hk hnk
  go_enter Tryd.func77, Tryd.ntmps77
  have hb0 := below_alloc w (.cells #[.int .u8 254, .int .u8 253] 50)
  have hk0 := Blk.new w 50 #[.int .u8 254, .int .u8 253]
  go_wp2_with fail
  generalize (World.alloc w _) = w0 at *
  obtain ⟨v, hv⟩ : ∃ v, w.heap.size = v := ⟨_, rfl⟩
  rw [hv] at hk0 hb0 ⊢
  have HB0 : Hid (Below w.heap.size w w0) := Lib.hid (by rw [hv]; exact hb0)
  have HV0 := Lib.hid hk0
  have HV := Lib.hid hv
  clear hb0 hk0 hv
  refine (HNH.out w0 (keep_of_below HB0.out _ _ HR2.out.1) (HR2.out.2.keep HB0.out)).mono ?_
  rintro e w1 ⟨h, rfl, hh, hm⟩
  have HM1 := Lib.hid hm
  have HH := Lib.hid hh
  have HB1 : Hid (Below w0.heap.size w0 w1) := Lib.hid (by rw [← hh]; exact hm.bel)
  have HV1 := Lib.hid (HV0.out.keep HB1.out)
  clear hm hh HNH
  go_wp2_with fail
  refine upon_make 51 5 (.int .u8 0) 1 Tryd.underlying51 t_u8info rfl 13 13 rfl rfl (Nat.le_refl _) (by omega) (by simp only [maxLen]; omega) ?_
  intro w2 hO2 hb2 hs2
  obtain ⟨N, hN⟩ : ∃ N, w1.heap.size = N := ⟨_, rfl⟩
  rw [hN] at hO2 hb2 hs2 ⊢
  have HN := Lib.hid hN
  have HO2 := Lib.hid hO2
  have HB2 : Hid (Below N w1 w2) := Lib.hid hb2
  have HS2 : Hid (N ≤ w2.heap.size) := Lib.hid (by omega)
  have HVN : Hid (v < N) := Lib.hid (by rw [← hN]; exact HV1.out.lt)
  clear hO2 hb2 hs2 hN HV0 HV
  go_wp2_with fail
  refine (put16_any N N 0 13 13 0 0 13 13 _ ep w2 HO2.out (by omega) (by omega) (by omega)).mono ?_
  rintro e w3 ⟨rfl, hO3, hg3⟩
  have HO3 := Lib.hid hO3
  have HB3 : Hid (Below N w1 w3) := Lib.hid (below_of_grown HB2.out hg3 HS2.out (Nat.le_refl _))
  have HS3 : Hid (N ≤ w3.heap.size) := Lib.hid (Nat.le_trans HS2.out hg3.size)
  clear hO3 hg3 HO2 HB2 HS2
  go_wp2_with fail
  refine (u48_put N N 2 2 11 13 13 11 sq _ w3 HO3.out rfl (by omega) (by omega)).mono ?_
  rintro e w4 ⟨rfl, hO4, hg4⟩
  have HB4 : Hid (Below N w1 w4) := Lib.hid (below_of_grown HB3.out hg4 HS3.out (Nat.le_refl _))
  have HS4 : Hid (N ≤ w4.heap.size) := Lib.hid (Nat.le_trans HS3.out hg4.size)
  obtain ⟨v8', _, q8, f8⟩ := hO4.at_ 8 (by omega)
  obtain ⟨v9', _, q9, f9⟩ := hO4.at_ 9 (by omega)
  obtain ⟨v10', _, q10, f10⟩ := hO4.at_ 10 (by omega)
  have hv4 := HV1.out.keep (w' := w4) (by rw [HN.out]; exact HB4.out)
  have u0 : w4.cell? ⟨v, 0, none⟩ = some (.int .u8 254) := (hv4.cell 0).trans rfl
  have u1 : w4.cell? ⟨v, 1, none⟩ = some (.int .u8 253) := (hv4.cell 1).trans rfl
  have gn : ¬ v = N := by have := HVN.out; omega
  have gn' : ¬ N = v := by omega
  simp only [Nat.zero_add] at q8 q9 q10 f8 f9 f10
  have hs := ((hO4.set 8 (by omega) (.int .u8 ct.toNat)).set 9 (by omega) (.int .u8 254)).set 10 (by omega) (.int .u8 253)
  simp only [Nat.zero_add] at hs
  have hB5 : Below N w1 (((w4.setCell ⟨N, 8, none⟩ (.int .u8 ct.toNat)).setCell ⟨N, 9, none⟩ (.int .u8 254)).setCell ⟨N, 10, none⟩ (.int .u8 253)) := ((HB4.out.setCell (p := ⟨N, 8, none⟩) (Nat.le_refl _) _).setCell (p := ⟨N, 9, none⟩) (Nat.le_refl _) _).setCell (p := ⟨N, 10, none⟩) (Nat.le_refl _) _
  have HO5 := Lib.hid hs
  have HB5 := Lib.hid hB5
  clear hs hB5 hO4 hg4 HO3 HB3 HS3 hv4
  go_wp2_with fail
  have HOD5 : Hid (Own (((w4.setCell ⟨N, 8, none⟩ (.int .u8 ct.toNat)).setCell ⟨N, 9, none⟩ (.int .u8 254)).setCell ⟨N, 10, none⟩ (.int .u8 253)).drew N 1 (some ⟨N, 0, none⟩) 13 13 _) := HO5
  have HBD5 : Hid (Below N w1 (((w4.setCell ⟨N, 8, none⟩ (.int .u8 ct.toNat)).setCell ⟨N, 9, none⟩ (.int .u8 254)).setCell ⟨N, 10, none⟩ (.int .u8 253)).drew) := Lib.hid HB5.out.drew
  have HZD5 : Hid (N ≤ (((w4.setCell ⟨N, 8, none⟩ (.int .u8 ct.toNat)).setCell ⟨N, 9, none⟩ (.int .u8 254)).setCell ⟨N, 10, none⟩ (.int .u8 253)).drew.heap.size) := Lib.hid (by rw [World.size_drew, World.size_setCell, World.size_setCell, World.size_setCell]; exact HS4.out)
  clear HO5 HB5 HS4 u0 u1 q8 q9 q10 f8 f9 f10 HB4
  generalize ((w4.setCell ⟨N, 8, none⟩ (.int .u8 ct.toNat)).setCell ⟨N, 9, none⟩ (.int .u8 254)).setCell ⟨N, 10, none⟩ (.int .u8 253) = w5 at *
  have HPU := Lib.hid (put16_any N N 0 13 13 11 11 2 2 _ n1 w5.drew HOD5.out (by omega) (by omega) (by omega))
  go_region_held_law (fun _ => True) (exact trivial) (first
    | (go_at_call 56; with_reducible refine HPU.out.mono ?_; rintro e w6 ⟨rfl, hO6, hg6⟩))
  all_goals
    have HR6 : Hid (Rd w6 (some ⟨N, 0, none⟩) (vs (add13 ct 254 253 ep sq n1))) := Lib.hid (by
      have h := hO6.rd
      simpa [add13, be, vs, List.replicate] using h)
    have hb6 : Below N w1 w6 := below_of_grown HBD5.out hg6 HZD5.out (Nat.le_refl _)
    have HM6 := Lib.hid (hmKeep HM1.out (by rw [HN.out]; exact hb6))
    have hpl : Rd w6 A1 (vs pl) := (HS.out.2.2.1.keep HB0.out).keep (by have h := HM6.out.bel; rwa [HH.out] at h)
    have HW1 := Lib.hid (hmWrite h kind mk [] (add13 ct 254 253 ep sq n1) (some ⟨N, 0, none⟩) 13 13 (by simp [add13, be_length]) (by simp) w0 w6 HM6.out HR6.out)
    clear hO6 hg6 hb6 HOD5 HBD5 HZD5 HPU hpl
    go_wp2_with fail
    refine HW1.out.mono ?_
    rintro e w7 ⟨rfl, hm7⟩
    have HM7 := Lib.hid hm7
    have hpl : Rd w7 A1 (vs pl) := (HS.out.2.2.1.keep HB0.out).keep (by have h := HM7.out.bel; rwa [HH.out] at h)
    have HW2 := Lib.hid (hmWrite h kind mk ([] ++ add13 ct 254 253 ep sq n1) pl A1 n1 c1 HS.out.1 (by simp [add13, be_length]; have := HS.out.2.1; omega) w0 w7 HM7.out hpl)
    clear hm7 hpl HW1 HM6 HR6
    go_wp2_with fail
    refine HW2.out.mono ?_
    rintro e w8 ⟨rfl, hm8⟩
    rw [List.nil_append] at hm8
    have HSS := Lib.hid (HSU.out w0 w8 h hm8)
    clear hm8 HW2 HM7
    go_wp2_with fail
    refine HSS.out.mono ?_
    rintro e w9 ⟨A', c', rfl, hO9, hb9⟩
    have HR9 := Lib.hid hO9.rd
    have HB9 : Hid (Below w.heap.size w w9) := Lib.hid (below_two HB0.out (by rw [← HH.out]; exact hb9))
    clear hO9 hb9 HSS
    go_wp2_with fail
    first | go_ret2 | go_ret
    first | exact ⟨A', c', rfl, HR9.out, HB9.out⟩ | exact ⟨⟨_, _, rfl⟩, HR9.out, HB9.out⟩
end Go.Proofs.YtpedkkmoplbdhaaDoor
