/- Walks: the law of a list of signature schemes for certificates. -/
import Derived.Test.YtkjpkenhpmjikaaDoorSacRead
import Derived.Test.YtkjpkenhpmjikaaDoorSameG
namespace Go.Proofs.YtkjpkenhpmjikaaDoor
open Go.RowKit Go.Cv
set_option maxRecDepth 100000
set_option linter.unusedVariables false
theorem equal_pair (h s : Nat) (w : World) : Calls Tryd.prog 54 #[.agg #[.int .u16 h, .int .u16 s], .agg #[.int .u16 h, .int .u16 s]] w fun e w' => e = .returned (.bool true) ∧ Below w.heap.size w w' := by
  go_enter Tryd.func54, Tryd.ntmps54
  go_wp2_with fail
  go_ret
  exact ⟨by simp, below_two (below_alloc _ _) (below_alloc _ _)⟩
set_option maxHeartbeats 1000000 in
theorem list_pair_any (a o c a2 o2 c2 n : Nat) (zs : List (Nat × Nat)) (hl : zs.length = n) (hn : (n : Int) ≤ 1000) (w : World) (hr : Rd w (some ⟨a, o, none⟩) (pv zs)) (hr2 : Rd w (some ⟨a2, o2, none⟩) (pv zs)) :
    Calls Tryd.prog 53 #[.slice (some ⟨a, o, none⟩) n c, .slice (some ⟨a2, o2, none⟩) n c2, .func (.func 54) #[] #[]] w fun e w' => e = .returned (.bool true) ∧ Below w.heap.size w w' := by
  have HR := Lib.hid hr
  have HR2 := Lib.hid hr2
  have HL := Lib.hid hl
  clear hr hr2 hl
  go_enter Tryd.func53, Tryd.ntmps53
  go_wp2_with fail
  go_loopw [15] (fun i wr => ∃ j : Nat, j ≤ n ∧ i = .int .i64 j ∧ Below w.heap.size w wr) (fun i _ => n - (intOf i).toNat)
  case atStart => exact ⟨0, Nat.zero_le _, rfl, Below.refl _ _⟩
  case round =>
    obtain ⟨j, hj, rfl, hbr⟩ := hrel
    have HBR := Lib.hid hbr
    clear hbr
    by_cases hlt : j < n
    · obtain ⟨⟨h, s⟩, hv⟩ : ∃ p, zs[j]? = some p := ⟨_, List.getElem?_eq_getElem (by rw [HL.out]; exact hlt)⟩
      have HB : Hid (∀ w', Below wr.heap.size wr w' → w'.cell? ⟨a, o + j * 2, none⟩ = some (.int .u16 h) ∧ w'.cell? ⟨a, o + j * 2 + 1, none⟩ = some (.int .u16 s) ∧ w'.cell? ⟨a2, o2 + j * 2, none⟩ = some (.int .u16 h) ∧ w'.cell? ⟨a2, o2 + j * 2 + 1, none⟩ = some (.int .u16 s)) := fun w' hw =>
        ⟨(pairCell ((HR.out.keep HBR.out).keep hw) j h s hv).1, (pairCell ((HR.out.keep HBR.out).keep hw) j h s hv).2, (pairCell ((HR2.out.keep HBR.out).keep hw) j h s hv).1, (pairCell ((HR2.out.keep HBR.out).keep hw) j h s hv).2⟩
      clear hv
      go_wp2_with fail
      go_region_held3 (fun w' => w'.cell? ⟨a, o + j * 2, none⟩ = some (.int .u16 h) ∧ w'.cell? ⟨a, o + j * 2 + 1, none⟩ = some (.int .u16 s) ∧ w'.cell? ⟨a2, o2 + j * 2, none⟩ = some (.int .u16 h) ∧ w'.cell? ⟨a2, o2 + j * 2 + 1, none⟩ = some (.int .u16 s)) ((refine HB.out _ ?_; first | ((repeat (first | assumption | exact Below.refl _ _ | refine Below.drew ?_ | refine Below.setCell ?_ (by first | omega | (simp; done) | (simp; omega)) _ | refine Below.alloc ?_ (by first | omega | (simp; done) | (simp; omega)) _)); done) | exact below_two (below_drew _) (by assumption)))
        (first | (go_at_call 54; refine (equal_pair _ _ _).mono ?_; rintro e w3 ⟨rfl, hb3⟩))
      all_goals
        have HB3 := Lib.hid (below_two HBR.out (below_two (below_drew wr) hb3))
        clear hb3 HB
        go_wp2_with fail
        go_roundw
        case rel => exact ⟨j + 1, by omega, by go_num, HB3.out⟩
        case measure => simp [intOf]; omega
    · obtain rfl : j = n := by omega
      go_wp2_with fail
      go_ret
      exact ⟨rfl, HBR.out⟩
theorem sacl_big (A : Option Addr) (n c : Nat) (h1 : decide ((2147483647 : Int) < n) = true) (w : World) :
    Calls Tryd.prog 12 #[.slice A n c] w fun e w' => e = .returned (.bool true) ∧ Below w.heap.size w w' := by
  go_enter Tryd.func12, Tryd.ntmps12
  go_wp2_with fail
  go_ret
  exact ⟨rfl, Below.refl _ _⟩
theorem sacl_nil (A : Option Addr) (c : Nat) (w : World) :
    Calls Tryd.prog 12 #[.slice A 0 c] w fun e w' => e = .returned (.bool true) ∧ Below w.heap.size w w' := by
  go_enter Tryd.func12, Tryd.ntmps12
  go_wp2_with fail
  refine (schemes0 A c w).mono ?_
  rintro e w1 ⟨rfl, rfl⟩
  go_wp2_with fail
  go_ret
  exact ⟨rfl, Below.refl _ _⟩
set_option maxHeartbeats 2000000 in
theorem sacl_any (b o n c : Nat) (zs : List (Nat × Nat)) (hl : zs.length = n) (h0 : 0 < n) (h1 : decide ((2147483647 : Int) < n) = false) (HN : Hid ((n : Int) ≤ 2147483647)) (w : World) (hr : Rd w (some ⟨b, o, none⟩) (pv zs)) :
    Calls Tryd.prog 12 #[.slice (some ⟨b, o, none⟩) n c] w fun e w' => e = .returned (.bool true) ∧ Below w.heap.size w w' := by
  have HS := Lib.hid (schemes_any b o n c zs hl h0 HN w hr)
  have HR := Lib.hid hr
  have HL := Lib.hid hl
  clear hr hl
  go_enter Tryd.func12, Tryd.ntmps12
  go_wp2_with fail
  refine HS.out.mono ?_
  rintro e w1 ⟨d, rfl, hd, hb1⟩
  have HB1 := Lib.hid hb1
  clear hb1
  cases d with
  | false =>
    clear hd
    go_wp2_with fail
    go_ret
    exact ⟨rfl, HB1.out⟩
  | true =>
    obtain ⟨hz, _, h9⟩ := hd rfl
    have h9' : n < 1000 := by have := HL.out; omega
    have HM := Lib.hid (marks_any b o n c zs HL.out (by omega) hz w1 (HR.out.keep HB1.out))
    obtain ⟨F, hF⟩ : ∃ F, flat 2 (codes zs) = F := ⟨_, rfl⟩
    have hFl : F.length = n * 2 := by rw [← hF, flat_length]; unfold codes; rw [List.length_map, HL.out]
    rw [hF] at HM
    have HV := Lib.hid (fun w => vec_any 2 (by omega) F (by omega) w)
    obtain ⟨V, hV⟩ : ∃ V, be 2 F.length ++ F = V := ⟨_, rfl⟩
    rw [hV] at HV
    have hVl : V.length = n * 2 + 2 := by rw [← hV, List.length_append, be_length, hFl]; omega
    have HFR := Lib.hid (fun w => framedExt_any 50 (by omega) V (by omega) w)
    obtain ⟨m, hm⟩ : ∃ m, be 2 50 ++ (be 2 V.length ++ V) = m := ⟨_, rfl⟩
    rw [hm] at HFR
    obtain ⟨x, y, e2, hxy⟩ := be2_parts V.length (by omega)
    obtain ⟨u, v, e1, huv⟩ := be2_parts F.length (by omega)
    have hm' : m = 0 :: 50 :: x :: y :: u :: v :: flat 2 (codes zs) := by rw [← hm, e2, ← hV, e1, hF]; rfl
    have HO := Lib.hid (fun w => sacRead_ok m x y u v zs n hm' (by omega) (by omega) HL.out h9' h0 hz w)
    have HLP := Lib.hid (fun a c a2 c2 o2 w hr hr2 => list_pair_any a 0 c a2 o2 c2 n zs HL.out (by omega) w hr hr2)
    clear hd hz h9 h9' hF hFl hV hVl hm hxy huv e1 e2 hm' HS h1
    go_wp2_with fail
    refine HM.out.mono ?_
    rintro e w2 ⟨rfl, hb2⟩
    go_wp2_with fail
    refine (HV.out w2).mono ?_
    rintro e w3 ⟨rfl, hb3⟩
    go_wp2_with fail
    refine (HFR.out w3).mono ?_
    rintro e w4 ⟨rfl, hb4⟩
    go_wp2_with fail
    refine (HO.out w4).mono ?_
    rintro e w5 ⟨a, c', rfl, hra, hb5⟩
    have HB5 := Lib.hid (below_two (below_two (below_two (below_two HB1.out hb2) hb3) hb4) hb5)
    have HRA := Lib.hid hra
    clear hb2 hb3 hb4 hb5 HO HM HV HFR hra
    go_wp2_with (with_reducible refine Held.store 35 ?_)
    refine held_store_new (cells := prMsg 50 (some ⟨a, 0, none⟩) n c') extInfo rfl rfl rfl (by simp [prMsg, Value.oneCell']) fun w6 hk hb6 hsz6 => ?_
    clear hsz6
    have HR6 := Lib.hid (HRA.out.keep hb6)
    have HB6 := Lib.hid (below_two HB5.out hb6)
    clear hb6
    go_wp2_with (with_reducible refine Held.loadg 35 ?_)
    refine held_loadg_row hk Tryd.underlying35 extInfo rfl rfl ?_
    have HSM := Lib.hid (sameExtG w6 (prMsg 50 (some ⟨a, 0, none⟩) n c') (prMsg 50 (some ⟨b, o, none⟩) n c) 50 [] none none 0 0 none none 0 0 0 0 (some ⟨a, 0, none⟩) (some ⟨b, o, none⟩) n n c' c false 0 false none none 0 0 none none 0 0 none none 0 0 0 0 none none 0 0 none none 0 0 rfl rfl rfl rfl rfl rfl rfl rfl (fun w' _ => (list0_u16 none none 0 0 _ w').mono (by rintro e w'' ⟨rfl, rfl⟩; exact ⟨rfl, Below.refl _ _⟩)) rfl rfl (fun w' h => HLP.out a c' b c o w' (HR6.out.keep h) ((HR.out.keep HB6.out).keep h)) rfl rfl rfl rfl rfl rfl rfl rfl rfl rfl rfl rfl (fun w' _ => (list0_u16 none none 0 0 _ w').mono (by rintro e w'' ⟨rfl, rfl⟩; exact ⟨rfl, Below.refl _ _⟩)) rfl rfl rfl rfl)
    clear hk
    go_wp2_with fail
    refine HSM.out.mono ?_
    rintro e w7 ⟨rfl, hb7⟩
    go_wp2_with fail
    go_ret
    exact ⟨rfl, below_two HB6.out hb7⟩
theorem sacl_row (A : Option Addr) (n c : Nat) (zs : List (Nat × Nat)) (hz : zs.length = n) (hnc : n ≤ c) (w : World) (hr : Rd w A (pv zs)) {p q r : Prop} (ad0 : Addr) (g0 : p) (ad1 : Addr) (g1 : q) (ad2 : Addr) (g2 : r) {s t : Prop} (ad3 : Addr) (g3 : s) (ad4 : Addr) (g4 : t) :
    Calls Tryd.prog 12 #[.slice A n c] w fun e w' => e = .returned (.bool true) ∧ Below w.heap.size w w' := by
  by_cases h0 : 0 < n
  case neg =>
    obtain rfl : n = 0 := by omega
    exact sacl_nil A c w
  by_cases h1 : (2147483647 : Int) < n
  · exact sacl_big A n c (by simpa using h1) w
  · rcases hr with hr | ⟨b, o, rfl, hr⟩
    · have := congrArg List.length hr
      rw [pv_length, hz] at this
      exact absurd h0 (by clear h1; simp at this; omega)
    · exact sacl_any b o n c zs hz h0 (by simpa using h1) (Lib.hid (Int.not_lt.1 h1)) w (.inr ⟨b, o, rfl, hr⟩)
end Go.Proofs.YtkjpkenhpmjikaaDoor
