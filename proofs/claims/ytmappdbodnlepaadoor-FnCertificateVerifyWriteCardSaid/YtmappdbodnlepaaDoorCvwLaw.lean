/- Walks: the law of what proves a certificate, written. -/
import Derived.Test.YtmappdbodnlepaaDoorCvw
namespace Go.Proofs.YtmappdbodnlepaaDoor
open Go.RowKit Go.Cv
set_option maxRecDepth 100000
set_option linter.unusedVariables false
theorem cvWrite_any (h s n : Nat) (l : List UInt8) (hn : l.length = n) (h0 : 0 < n) (h6 : n < 60000) (ok : OkP h s) (hs : s = 1 ∨ s = 3 ∨ s = 7) (w : World) :
    Calls Tryd.prog 18 #[.agg (cvMsg h s l)] w fun e w' => e = .returned (.tuple #[.string (S (be 2 (code h s) ++ (be 2 n ++ l))), .bool true]) ∧ Below w.heap.size w w' := by
  have hlm : l.length ≤ maxLen := by simp only [maxLen]; omega
  obtain ⟨cs, hcs⟩ : ∃ cs, cvMsg h s l = cs := ⟨_, rfl⟩
  have HM := Lib.hid (fun w => makeCv_any h s l hlm cs (by rw [← hcs]; rfl) (by rw [← hcs]; rfl) (by rw [← hcs]; rfl) w)
  have HC := Lib.hid (fun b ra c w hk hr => marshalCv_any h s b ra n c l hn h0 h6 ok hs w hk hr)
  have HN := Lib.hid hn
  have hi : (Tryd.prog.info? 45).map (·.size) = some cs.size := by rw [← hcs]; exact cvMsgInfo
  rw [hcs]
  clear hn h0 h6 ok hs hlm hcs
  go_enter Tryd.func18, Tryd.ntmps18
  have hg := heap_alloc_new w (.cells cs 45)
  go_wp2_with (with_reducible refine wpList_load_row rfl 45 (.tmp 1) rfl w.heap.size (by with_unfolding_all rfl) 45 cs (0, 0) _ hg Tryd.underlying45 (by with_unfolding_all rfl) hi ?_)
  clear hi hg
  go_wp2_with fail
  refine (HM.out _).mono ?_
  rintro e w1 ⟨b, ra, c, rfl, hk, hr, hb1⟩
  rw [HN.out] at hk
  have HCC := Lib.hid (HC.out b ra c w1 hk hr)
  have HB1 := Lib.hid (below_two (below_alloc w _) hb1)
  clear hk hr hb1 HM HC
  go_wp2_with fail
  refine HCC.out.mono ?_
  rintro e w2 ⟨A', n', c', rfl, hn', hr2, hb2⟩
  have HT := Lib.hid (text_any A' n' c' _ hn'.symm w2 hr2)
  have HB2 := Lib.hid (below_two HB1.out hb2)
  clear hn' hr2 hb2
  go_wp2_with fail
  refine HT.out.mono ?_
  rintro e w3 ⟨rfl, rfl⟩
  go_wp2_with fail
  go_ret2
  exact ⟨rfl, HB2.out⟩
theorem cvl_big (h s n : Nat) (l : List UInt8) (hn : l.length = n) (h1 : decide ((2147483647 : Int) < n) = true) (w : World) :
    Calls Tryd.prog 5 #[.agg #[.int .u16 (h : Int), .int .u16 (s : Int)], .string (S l)] w fun e w' => e = .returned (.bool true) ∧ Below w.heap.size w w' := by
  have h3 : (S l).size = n := by rw [S_size, hn]
  go_enter Tryd.func5, Tryd.ntmps5
  go_wp2_with fail
  go_ret
  exact ⟨rfl, below_alloc _ _⟩
set_option maxHeartbeats 1000000 in
theorem cvl_any (h s n : Nat) (l : List UInt8) (hn : l.length = n) (h1 : decide ((2147483647 : Int) < n) = false) (w : World) :
    Calls Tryd.prog 5 #[.agg #[.int .u16 (h : Int), .int .u16 (s : Int)], .string (S l)] w fun e w' => e = .returned (.bool true) ∧ Below w.heap.size w w' := by
  have h3 : (S l).size = n := by rw [S_size, hn]
  have HS := Lib.hid (fun w => scheme_any h s w)
  have HN := Lib.hid hn
  have hbW := below_alloc w (.cells #[.int .u16 (h : Int), .int .u16 (s : Int)] 33)
  have kp : ∀ w', Below (w.alloc (.cells #[.int .u16 (h : Int), .int .u16 (s : Int)] 33)).heap.size (w.alloc (.cells #[.int .u16 (h : Int), .int .u16 (s : Int)] 33)) w' → w'.cell? ⟨w.heap.size, 0, none⟩ = some (.int .u16 (h : Int)) ∧ w'.cell? ⟨w.heap.size, 1, none⟩ = some (.int .u16 (s : Int)) := fun w' hb => by
    have hk := (Blk.new w 33 #[.int .u16 (h : Int), .int .u16 (s : Int)]).keep hb
    exact ⟨(hk.cell 0).trans rfl, (hk.cell 1).trans rfl⟩
  have KP := Lib.hid kp
  have HBW := Lib.hid hbW
  clear hn kp hbW
  go_enter Tryd.func5, Tryd.ntmps5
  go_wp2_with fail
  refine (HS.out _).mono ?_
  rintro e w1 ⟨d, rfl, hd, hb1⟩
  cases d with
  | false =>
    clear hd
    go_wp2_with fail
    go_ret
    exact ⟨rfl, below_two HBW.out hb1⟩
  | true =>
    have ok := hd rfl
    obtain ⟨k0, k1⟩ := KP.out w1 hb1
    have HB1 := Lib.hid hb1
    have OK := Lib.hid ok
    clear hd hb1 HS
    rcases ok.split with ⟨hs, _⟩ | ⟨hs, _⟩
    case inr =>
      have HP := Lib.hid (fun w => pss_yes s hs w)
      clear hs ok
      go_wp2_with fail
      refine (HP.out _).mono ?_
      rintro e w2 ⟨rfl, hb2⟩
      go_wp2_with fail
      go_ret
      exact ⟨rfl, by subst hb2; exact below_two HBW.out HB1.out⟩
    case inl =>
      have HP := Lib.hid (fun w => pss_no s (by omega) w)
      have HSS := Lib.hid hs
      clear hs ok
      go_wp2_with fail
      refine (HP.out _).mono ?_
      rintro e w2 ⟨rfl, hb2⟩
      subst hb2
      by_cases h0 : n = 0
      · subst h0
        go_wp2_with fail
        go_ret
        exact ⟨rfl, below_two HBW.out HB1.out⟩
      have t0 : 0 < n := by omega
      have t0' : decide ((0 : Int) < n) = true := by simp; omega
      by_cases h6 : n < 60000
      case neg =>
        have t6 : decide ((n : Int) < 60000) = false := by simp; omega
        have t6' : ¬ n < 60000 := h6
        go_wp2_with fail
        go_ret
        exact ⟨rfl, below_two HBW.out HB1.out⟩
      have t6 : decide ((n : Int) < 60000) = true := by simp; omega
      have HCW := Lib.hid (fun w => cvWrite_any h s n l HN.out t0 h6 OK.out HSS.out w)
      have HPW := Lib.hid (fun w => pairWrite_ok h s OK.out w)
      have HV := Lib.hid (fun w => vec_any 2 (by omega) l (by rw [HN.out]; omega) w)
      rw [HN.out] at HV
      have hadd := fun w1 => run_add (P := Tryd.prog) (be 2 (code h s)) (be 2 n ++ l) (by rw [List.length_append, be_length, be_length, HN.out]; omega) w1
      clear h0
      unfold cvMsg at HCW
      go_wp2_with fail
      refine (HCW.out _).mono ?_
      rintro e w3 ⟨rfl, hb3⟩
      have HB3 := Lib.hid (below_two HB1.out hb3)
      obtain ⟨k0, k1⟩ := KP.out w3 HB3.out
      clear hb3 HCW
      go_wp2_with fail
      refine (HPW.out _).mono ?_
      rintro e w4 ⟨rfl, hb4⟩
      have HB4 := Lib.hid (below_two HB3.out hb4)
      clear hb4
      go_wp2_with fail
      refine (HV.out _).mono ?_
      rintro e w5 ⟨rfl, hb5⟩
      go_wp2_with fail
      go_ret
      exact ⟨by simp, below_two HBW.out (below_two HB4.out hb5)⟩
theorem cvl_row (cs : Array Value) (hk : cs.size = 2) (x0 : Int) (e0 : cs[0]? = some (.int .u16 x0)) (w0 : (Lit.int .u16 x0).wf = true) (x1 : Int) (e1 : cs[1]? = some (.int .u16 x1)) (w1 : (Lit.int .u16 x1).wf = true) (l : List UInt8) (w : World) {p q r : Prop} (ad0 : Addr) (g0 : p) (ad1 : Addr) (g1 : q) (ad2 : Addr) (g2 : r) :
    Calls Tryd.prog 5 #[.agg cs, .string (S l)] w fun e w' => e = .returned (.bool true) ∧ Below w.heap.size w w' := by
  obtain ⟨h, rfl, _⟩ := nat_u16 w0
  obtain ⟨s, rfl, _⟩ := nat_u16 w1
  have : cs = #[.int .u16 (h : Int), .int .u16 (s : Int)] := by
    apply Array.ext_getElem?
    intro i
    match i with
    | 0 => simpa using e0
    | 1 => simpa using e1
    | i + 2 => rw [Array.getElem?_eq_none (by omega), Array.getElem?_eq_none (by simp)]
  subst this
  by_cases h1 : (2147483647 : Int) < l.length
  · exact cvl_big h s _ l rfl (by simpa using h1) w
  · exact cvl_any h s _ l rfl (by simpa using h1) w
end Go.Proofs.YtmappdbodnlepaaDoor
