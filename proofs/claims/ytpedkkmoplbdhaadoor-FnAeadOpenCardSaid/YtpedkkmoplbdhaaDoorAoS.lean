/- Walks: the stand-in of an authenticated cipher, opened, in the reference. -/
import Derived.Test.YtpedkkmoplbdhaaDoorAeS
import Derived.Test.YtpedkkmoplbdhaaDoorBase
namespace Go.Proofs.YtpedkkmoplbdhaaDoor
open Go.RowKit Go.Cv
set_option maxRecDepth 100000
set_option linter.unusedVariables false
theorem s_open_few (key nonce sealed ad : List UInt8) (tag : Nat) (h2 : tag ≤ 32) (hs3 : sealed.length ≤ 100000) (hlt : sealed.length < tag) (w : World) :
    Calls Tryd.prog 41 #[.string (S key), .string (S nonce), .string (S sealed), .string (S ad), .int .i64 (tag : Nat)] w fun e w' => e = .returned (.tuple #[.string (S []), .bool false]) ∧ w = w' := by
  have hz : (S sealed).size = sealed.length := S_size sealed
  obtain ⟨m, hm⟩ : ∃ m, sealed.length = m := ⟨_, rfl⟩
  rw [hm] at hz hlt hs3
  have e2 : IntKind.i64.wrap ((m : Int) - (tag : Int)) = (m : Int) - tag := by rw [IntKind.wrap_i64]; omega
  have t1 : decide ((m : Int) - tag < 0) = true := by simp; omega
  have t2 : (m : Int) - tag < 0 := by omega
  have t3 : (m : Int) < tag := by omega
  have t4 : m < tag := hlt
  clear hm h2 hs3 hlt
  go_enter Tryd.func41, Tryd.ntmps41
  go_wp2_with fail
  first | go_ret2 | go_ret
  first | exact ⟨rfl, rfl⟩ | exact ⟨⟨rfl, rfl⟩, rfl⟩ | rfl | trivial
set_option maxHeartbeats 2000000 in
theorem s_open_in (key nonce sealed ad : List UInt8) (tag n : Nat) (h1 : 1 ≤ tag) (h2 : tag ≤ 32) (hs1 : key.length ≤ 100000) (hs2 : nonce.length ≤ 100000) (hs3 : sealed.length ≤ 100000) (hs4 : ad.length ≤ 100000) (hn : n + tag = sealed.length) (ok : Bool) (hok : ok = decide (aMark key nonce (aHide key nonce sealed n) ad tag = sealed.drop n)) (w : World) :
    Calls Tryd.prog 41 #[.string (S key), .string (S nonce), .string (S sealed), .string (S ad), .int .i64 (tag : Nat)] w fun e w' => e = .returned (.tuple #[.string (S (if ok then aHide key nonce sealed n else [])), .bool ok]) ∧ Below w.heap.size w w' := by
  have HMK := Lib.hid (s_mark key nonce (aHide key nonce sealed n) ad tag h1 h2 hs1 hs2 (by rw [aHide_length]; omega) hs4)
  have HST := Lib.hid (fun i (hi : i ≤ 1000000) => s_stream key nonce i hi)
  have hz : (S sealed).size = sealed.length := S_size sealed
  obtain ⟨hd, hhd⟩ : ∃ h, aHide key nonce sealed n = h := ⟨_, rfl⟩
  rw [hhd] at hok HMK ⊢
  have HHD := Lib.hid hhd
  clear hhd
  obtain ⟨m, hm⟩ : ∃ m, sealed.length = m := ⟨_, rfl⟩
  rw [hm] at hz hn hs3
  have HM := Lib.hid (And.intro hm (And.intro hn hs3))
  have e1 : (m : Int) - (tag : Int) = (n : Int) := by omega
  have e2 : IntKind.i64.wrap (n : Int) = (n : Int) := i64_nat n (by omega)
  have t1 : decide ((n : Int) < 0) = false := by simp
  have t2 : decide ((tag : Int) < 0) = false := by simp
  have n64 : n ≤ 4294967296 := by omega
  have HN3 : Hid (n ≤ 100000) := Lib.hid (by omega)
  have HOK := Lib.hid hok
  clear hm hn h1 h2 hs1 hs2 hs3 hs4 hok
  go_enter Tryd.func41, Tryd.ntmps41
  go_wp2_with fail
  refine upon_make 51 5 (.int .u8 0) 1 Tryd.underlying51 s_u8info rfl n n rfl rfl (Nat.le_refl _) (by have := HN3.out; omega) (by have := HN3.out; simp only [maxLen]; omega) ?_
  intro w1 hown hb hsz
  obtain ⟨p, hp⟩ : ∃ p, w.heap.size = p := ⟨_, rfl⟩
  rw [hp] at hown hb hsz ⊢
  have HO0 : Hid (Own w1 p 1 (some ⟨p, 0, none⟩) n n (vs (showPart key nonce sealed n 0))) := Lib.hid (by rw [showPart_zero, vs_rep]; exact hown)
  have HB0 := Lib.hid hb
  have HP := Lib.hid hp
  clear hown hb hsz hp e1 e2
  go_wp2_with fail
  go_loopw [14] (fun i wr => ∃ j, j ≤ n ∧ i = .int .i64 (j : Nat) ∧ Hid (Own wr p 1 (some ⟨p, 0, none⟩) n n (vs (showPart key nonce sealed n j)) ∧ Below p w wr)) (fun i _ => n - (intOf i).toNat)
  case atStart => exact ⟨0, Nat.zero_le _, rfl, Lib.hid ⟨HO0.out, HB0.out⟩⟩
  case round =>
    obtain ⟨j, hj, rfl, HJ⟩ := hrel
    by_cases hlt : j < n
    · have C1 := Lib.hid (HST.out j (by have := HN3.out; omega))
      have hix := fun w' => run_index_S (P := Tryd.prog) w' 9 Tryd.underlying9 sealed .i64 j j rfl (by rw [HM.out.1]; have := HM.out.2.1; omega)
      have HE := Lib.hid (showPart_step key nonce sealed n j hlt)
      obtain ⟨cx, fx⟩ := own_vs HJ.out.1 j hlt
      have cx : wr.drew.cell? ⟨p, j, none⟩ = some (.int .u8 ((showPart key nonce sealed n j).getD j 0).toNat) := cx
      have fx : wr.drew.frozen? ⟨p, j, none⟩ = false := fx
      obtain ⟨old, hold⟩ : ∃ o, (showPart key nonce sealed n j).getD j 0 = o := ⟨_, rfl⟩
      rw [hold] at cx
      obtain ⟨x, hx⟩ : ∃ x, sealed.getD j 0 = x := ⟨_, rfl⟩
      obtain ⟨y, hy⟩ : ∃ y, aStream key nonce j = y := ⟨_, rfl⟩
      rw [hx] at hix HE
      rw [hy] at C1 HE
      have e1 := u8x x y
      obtain ⟨z, hzz⟩ : ∃ z, x ^^^ y = z := ⟨_, rfl⟩
      rw [hzz] at e1 HE
      have hset := own_vs_set HJ.out.1 j z hlt
      rw [HE.out] at hset
      have HSE := Lib.hid hset
      have HBE := Lib.hid (HJ.out.2.setCell (p := ⟨p, j, none⟩) (Nat.le_refl _) (.int .u8 (z.toNat : Int)))
      have k7 : (j : Int) < n := by omega
      have cy : wr.cell? ⟨p, j, none⟩ = some (.int .u8 (old.toNat : Int)) := cx
      have fy : wr.frozen? ⟨p, j, none⟩ = false := fx
      have jw := w64_inc hlt n64
      clear hx hy hzz hold hset
      go_wp2_with fail
      go_region_held_law (fun _ => True) (exact trivial) (first
        | (go_at_call 57; with_reducible refine (C1.out _).mono ?_; rintro e w5 ⟨rfl, rfl⟩))
      all_goals
        have HSD : Hid (Own (wr.setCell ⟨p, j, none⟩ (.int .u8 (z.toNat : Int))).drew p 1 (some ⟨p, 0, none⟩) n n (vs (showPart key nonce sealed n (j + 1)))) := HSE
        have HBD : Hid (Below p w (wr.setCell ⟨p, j, none⟩ (.int .u8 (z.toNat : Int))).drew) := Lib.hid HBE.out.drew
        clear cx fx cy fy
        generalize World.drew (World.setCell wr _ _) = w9 at *
        go_wp2_with fail
        go_roundw
        case rel => exact ⟨j + 1, hlt, by first | (rw [jw]; go_num) | go_num, Lib.hid ⟨HSD.out, HBD.out⟩⟩
        case measure => first | exact s_meas hlt | (rw [jw]; exact s_meas hlt)
    · obtain rfl : n = j := by omega
      have HX : Hid (∀ w', Below wr.heap.size wr w' → (convert 51 9 (.slice (some ⟨p, 0, none⟩) n n)).run Tryd.prog w' = .ok (.string (S hd)) w') := Lib.hid (fun w' hb => by rw [← HHD.out]; exact run_conv_bs w' _ _ 5 Tryd.underlying51 Tryd.underlying5 Tryd.underlying9 (aHide key nonce sealed n) _ n n (aHide_length _ _ _ _) (by have h := HJ.out.1.keep hb; rw [showPart_all] at h; exact h.rd))
      have hpw : p ≤ wr.heap.size := by
        have h := HB0.out.size
        have h2 := HJ.out.2.size
        rw [HP.out] at h2
        exact h2
      have HB3 := Lib.hid (And.intro HJ.out.2 hpw)
      have hxx := HX.out wr (Below.refl _ _)
      obtain ⟨dr, hdr⟩ : ∃ h, sealed.drop n = h := ⟨_, rfl⟩
      obtain ⟨mk, hmk⟩ : ∃ h, aMark key nonce hd ad tag = h := ⟨_, rfl⟩
      have hex : (S sealed).extract n m = S dr := by rw [S_extract, List.take_of_length_le (by rw [HM.out.1]; exact Nat.le_refl _), hdr]
      have i1 : (n : Int) ≤ m := by have := HM.out.2.1; omega
      have i2 : ¬ (m : Int) < n := by have := HM.out.2.1; omega
      rw [hmk, hdr] at HOK
      rw [hmk] at HMK
      clear HJ hlt hj hdr hmk hpw HO0
      by_cases hq : mk = dr
      · obtain rfl : ok = true := by rw [HOK.out]; exact decide_eq_true hq
        subst hq
        clear HOK
        go_wp2_with fail
        go_region_held_law (fun w' => (convert 51 9 (.slice (some ⟨p, 0, none⟩) n n)).run Tryd.prog w' = .ok (.string (S hd)) w')
          (first | exact HX.out _ (below_drew wr) | exact HX.out _ (below_two (below_drew wr) hb5))
          (first
          | (go_at_call 58; with_reducible refine (HMK.out _).mono ?_; rintro e w5 ⟨rfl, hb5⟩))
        have HB5 := Lib.hid (below_two (below_drew wr) hb5)
        have hxy := HX.out w5 HB5.out
        clear hb5 hxx
        go_wp2_with fail
        first | go_ret2 | go_ret
        have hB : Below w.heap.size w w5 := by rw [HP.out]; exact HB3.out.1.trans (HB5.out.mono HB3.out.2)
        first | exact ⟨rfl, hB⟩ | exact ⟨⟨rfl, rfl⟩, hB⟩ | exact hB
      · obtain rfl : ok = false := by rw [HOK.out]; exact decide_eq_false hq
        have n1 : ¬ S mk = S dr := S_ne hq
        have n2 : ((S mk).toList == (S dr).toList) = false := by rw [toList_eq, toList_eq, S_data, S_data]; simpa using hq
        clear HOK hq
        go_wp2_with fail
        go_region_held_law (fun w' => (convert 51 9 (.slice (some ⟨p, 0, none⟩) n n)).run Tryd.prog w' = .ok (.string (S hd)) w')
          (first | exact HX.out _ (below_drew wr) | exact HX.out _ (below_two (below_drew wr) hb5))
          (first
          | (go_at_call 58; with_reducible refine (HMK.out _).mono ?_; rintro e w5 ⟨rfl, hb5⟩))
        have HB5 := Lib.hid (below_two (below_drew wr) hb5)
        clear hb5 hxx
        go_wp2_with fail
        first | go_ret2 | go_ret
        have hB : Below w.heap.size w w5 := by rw [HP.out]; exact HB3.out.1.trans (HB5.out.mono HB3.out.2)
        first | exact ⟨rfl, hB⟩ | exact ⟨⟨rfl, rfl⟩, hB⟩ | exact hB
end Go.Proofs.YtpedkkmoplbdhaaDoor
