/- Walks: the law of a server's key exchange with a hint and a curve, read. -/
import Derived.Test.YtfelfjdgmjapnaaDoorSbbR
import Derived.Test.YtfelfjdgmjapnaaDoorSame
import Derived.Test.YtfelfjdgmjapnaaDoorNums
import Derived.Deep.RegionHeldLaw
namespace Go.Proofs.YtfelfjdgmjapnaaDoor
open Go.RowKit Go.Cv
set_option maxRecDepth 100000
set_option linter.unusedVariables false
theorem sbl_big (cv np nh : Nat) (hint pk : List UInt8) (hp : pk.length = np) (hs : hint.length = nh) (h1 : decide ((2147483647 : Int) < nh) = true ∨ (decide ((2147483647 : Int) < nh) = false ∧ decide ((2147483647 : Int) < np) = true)) (w : World) :
    Calls Tryd.prog 3 #[.string (S hint), .int .u16 (cv : Int), .string (S pk)] w fun e w' => e = .returned (.bool true) ∧ Below w.heap.size w w' := by
  have h3 : (S pk).size = np := by rw [S_size, hp]
  have h4 : (S hint).size = nh := by rw [S_size, hs]
  rcases h1 with h1 | ⟨h1, h2⟩
  all_goals
    go_enter Tryd.func3, Tryd.ntmps3
    go_wp2_with fail
    go_ret
    exact ⟨rfl, Below.refl _ _⟩
theorem sb_among (g : Nat) (W : World) : Calls Tryd.prog 5 #[.int .u16 (g : Int), .slice (some ⟨W.heap.size, 0, none⟩) 3 3] (W.alloc (.cells #[.int .u16 23, .int .u16 24, .int .u16 29] 22)) fun e w' => e = .returned (.bool ([23, 24, 29].contains g)) ∧ W.alloc (.cells #[.int .u16 23, .int .u16 24, .int .u16 29] 22) = w' :=
  among_any W.heap.size 0 3 3 g [23, 24, 29] rfl (by omega) _ (rd_new W _ _)
set_option maxHeartbeats 2000000 in
theorem sbl_any (cv np nh : Nat) (hint pk : List UInt8) (hcv : (cv : Int) < 65536) (hp : pk.length = np) (hs : hint.length = nh) (h1 : decide ((2147483647 : Int) < nh) = false) (h2 : decide ((2147483647 : Int) < np) = false) (w : World) :
    Calls Tryd.prog 3 #[.string (S hint), .int .u16 (cv : Int), .string (S pk)] w fun e w' => e = .returned (.bool true) ∧ Below w.heap.size w w' := by
  have h3 : (S pk).size = np := by rw [S_size, hp]
  have h4 : (S hint).size = nh := by rw [S_size, hs]
  have HP := Lib.hid hp
  have HG := Lib.hid hs
  have HCV := Lib.hid hcv
  have HAM := Lib.hid (sb_among cv w)
  have HB1 := Lib.hid (below_alloc w (.cells #[.int .u16 23, .int .u16 24, .int .u16 29] 22))
  clear hp hs hcv
  cases hc : [23, 24, 29].contains cv with
  | false =>
    rw [hc] at HAM
    go_enter Tryd.func3, Tryd.ntmps3
    go_wp2_with fail
    refine HAM.out.mono ?_
    rintro e w1 ⟨rfl, rfl⟩
    go_wp2_with fail
    go_ret
    exact ⟨rfl, HB1.out⟩
  | true =>
    rw [hc] at HAM
    have HC3 : Hid (cv = 23 ∨ cv = 24 ∨ cv = 29) := Lib.hid (by simpa using hc)
    clear hc
    by_cases p0 : np = 0
    · subst p0
      go_enter Tryd.func3, Tryd.ntmps3
      go_wp2_with fail
      refine HAM.out.mono ?_
      rintro e w1 ⟨rfl, rfl⟩
      go_wp2_with fail
      go_ret
      exact ⟨rfl, HB1.out⟩
    have t0 : 0 < np := by omega
    have t0' : decide ((0 : Int) < np) = true := by simp; omega
    by_cases p6 : np < 256
    case neg =>
      have t6 : decide ((np : Int) < 256) = false := by simp; omega
      have t6' : ¬ np < 256 := p6
      go_enter Tryd.func3, Tryd.ntmps3
      go_wp2_with fail
      refine HAM.out.mono ?_
      rintro e w1 ⟨rfl, rfl⟩
      go_wp2_with fail
      go_ret
      exact ⟨rfl, HB1.out⟩
    have t6 : decide ((np : Int) < 256) = true := by simp; omega
    by_cases q0 : nh = 0
    · subst q0
      go_enter Tryd.func3, Tryd.ntmps3
      go_wp2_with fail
      refine HAM.out.mono ?_
      rintro e w1 ⟨rfl, rfl⟩
      go_wp2_with fail
      go_ret
      exact ⟨rfl, HB1.out⟩
    have r0 : 0 < nh := by omega
    have r0' : decide ((0 : Int) < nh) = true := by simp; omega
    by_cases q6 : nh < 60000
    case neg =>
      have r6 : decide ((nh : Int) < 60000) = false := by simp; omega
      have r6' : ¬ nh < 60000 := q6
      go_enter Tryd.func3, Tryd.ntmps3
      go_wp2_with fail
      refine HAM.out.mono ?_
      rintro e w1 ⟨rfl, rfl⟩
      go_wp2_with fail
      go_ret
      exact ⟨rfl, HB1.out⟩
    have r6 : decide ((nh : Int) < 60000) = true := by simp; omega
    obtain ⟨o, ho⟩ : ∃ o, sbIn cv hint pk = o := ⟨_, rfl⟩
    have HCR : Hid (∀ W, Calls Tryd.prog 6 #[.int .i64 6, .string (S o)] W fun e w' => e = .returned (.tuple #[.agg (sbMsg hint pk 3 cv 6), .bool true]) ∧ Below W.heap.size W w') := Lib.hid (fun W => skRead_any cv nh np hint pk HG.out HP.out q6 r0 p6 t0 HC3.out o ho.symm W)
    have HV : Hid (∀ W, Calls Tryd.prog 7 #[.string (S hint), .int .i64 2] W fun e w' => e = .returned (.string (S (be 2 hint.length ++ hint))) ∧ Below W.heap.size W w') := Lib.hid (fun W => vec_any 2 (by omega) hint (by rw [HG.out]; omega) W)
    have HU : Hid (∀ W, Calls Tryd.prog 7 #[.string (S pk), .int .i64 1] W fun e w' => e = .returned (.string (S (be 1 pk.length ++ pk))) ∧ Below W.heap.size W w') := Lib.hid (fun W => vec_any 1 (by omega) pk (by rw [HP.out]; omega) W)
    have HB : Hid (∀ W, Calls Tryd.prog 8 #[.int .u64 (cv : Int), .int .i64 2] W fun e w' => e = .returned (.string (S (be 2 cv))) ∧ Below W.heap.size W w') := Lib.hid (fun W => big_any 2 (by omega) cv W)
    obtain ⟨x1, hx1⟩ : ∃ x, be 2 hint.length ++ hint = x := ⟨_, rfl⟩
    obtain ⟨x2, hx2⟩ : ∃ x, be 2 cv = x := ⟨_, rfl⟩
    obtain ⟨x3, hx3⟩ : ∃ x, be 1 pk.length ++ pk = x := ⟨_, rfl⟩
    have l1 : x1.length = 2 + nh := by rw [← hx1, List.length_append, be_length, HG.out]
    have l2 : x2.length = 2 := by rw [← hx2, be_length]
    have l3 : x3.length = 1 + np := by rw [← hx3, List.length_append, be_length, HP.out]
    have ho' : x1 ++ [3] ++ x2 ++ x3 = o := by rw [← ho, ← hx1, ← hx2, ← hx3]; simp [sbIn]
    rw [hx1] at HV
    rw [hx2] at HB
    rw [hx3] at HU
    clear hx1 hx2 hx3 ho
    obtain ⟨y1, hy1⟩ : ∃ x, x1 ++ [3] = x := ⟨_, rfl⟩
    rw [hy1] at ho'
    obtain ⟨y2, hy2⟩ : ∃ x, y1 ++ x2 = x := ⟨_, rfl⟩
    rw [hy2] at ho'
    have m1 : y1.length = 3 + nh := by rw [← hy1, List.length_append, l1]; simp; omega
    have m2 : y2.length = 5 + nh := by rw [← hy2, List.length_append, l2, m1]; omega
    have m3 : o.length = 6 + nh + np := by rw [← ho', List.length_append, l3, m2]; omega
    have a1 : ∀ w1, (Op.stringOp .add (S x1) { data := #[3] }).run Tryd.prog w1 = .ok (.string (S y1)) w1 := fun w1 => run_add_eq x1 [3] y1 hy1 (by omega) w1
    have a2 := fun w1 => run_add_eq (P := Tryd.prog) y1 x2 y2 hy2 (by omega) w1
    have a3 := fun w1 => run_add_eq (P := Tryd.prog) y2 x3 o ho' (by omega) w1
    have wc : IntKind.u64.wrap (cv : Int) = (cv : Int) := by have := HCV.out; rw [IntKind.wrap_u64]; omega
    clear l1 l2 l3 m1 m2 m3 hy1 hy2 ho' p0 q0
    have heq : ((S hint).toList == (S hint).toList) = true := by simp
    have heq2 : ((S pk).toList == (S pk).toList) = true := by simp
    have hem : (S []).toList.isEmpty = true := by rw [S_toList]; rfl
    go_enter Tryd.func3, Tryd.ntmps3
    go_wp2_with fail
    refine HAM.out.mono ?_
    rintro e w1 ⟨rfl, rfl⟩
    go_wp2_with fail
    refine (HV.out _).mono ?_
    rintro e w1 ⟨rfl, hb1⟩
    go_wp2_with fail
    refine (HB.out _).mono ?_
    rintro e w2 ⟨rfl, hb2⟩
    go_wp2_with fail
    refine (HU.out _).mono ?_
    rintro e w3 ⟨rfl, hb3⟩
    go_wp2_with fail
    refine (HCR.out _).mono ?_
    rintro e w4 ⟨rfl, hb4⟩
    have hb := below_two (below_two (below_two (below_two HB1.out hb1) hb2) hb3) hb4
    clear hb1 hb2 hb3 hb4 HV HB HU HCR HAM HB1
    go_wp2_with (with_reducible refine Held.store 32 ?_)
    refine held_store_new (cells := sbMsg hint pk 3 cv 6) sbMsgInfo rfl rfl rfl (by simp [sbMsg, Value.oneCell']) fun w5 hk hb5 _ => ?_
    go_wp2_with (with_reducible refine Held.loadg 32 ?_)
    refine held_loadg_row hk Tryd.underlying32 sbMsgInfo rfl rfl ?_
    go_wp2_with fail
    refine (sameMessage0 w5 _ _ 12 false 0 0 0 [] [] [] none none 0 0 none none 0 0 none none 0 0 none none 0 0 none none 0 0 none none 0 0 0 0 [] hint pk 6 3 cv [] [] none none 0 0 rfl rfl rfl rfl rfl rfl rfl rfl rfl rfl rfl rfl rfl rfl rfl rfl rfl rfl rfl rfl rfl rfl rfl rfl rfl rfl rfl rfl rfl rfl rfl rfl rfl rfl rfl rfl rfl rfl rfl rfl rfl rfl rfl rfl rfl rfl rfl rfl rfl rfl).mono ?_
    rintro e w6 ⟨rfl, rfl⟩
    go_wp2_with fail
    go_ret
    exact ⟨rfl, below_two (below_two hb hb5) (((Below.refl _ w5).alloc (Nat.le_refl _) _).alloc (by simp) _)⟩
theorem sbl_row (l : List UInt8) (x : Int) (wx : (Lit.int .u16 x).wf = true) (l2 : List UInt8) (w : World) {p0 p1 p2 p3 p4 p5 p6 p7 : Prop} (ad0 : Addr) (hg0 : p0) (ad1 : Addr) (hg1 : p1) (ad2 : Addr) (hg2 : p2) (ad3 : Addr) (hg3 : p3) (ad4 : Addr) (hg4 : p4) (ad5 : Addr) (hg5 : p5) (ad6 : Addr) (hg6 : p6) (ad7 : Addr) (hg7 : p7) :
    Calls Tryd.prog 3 #[.string (S l), .int .u16 x, .string (S l2)] w fun e w' => e = .returned (.bool true) ∧ Below w.heap.size w w' := by
  obtain ⟨cv, rfl, hcv⟩ := nat_u16 wx
  by_cases h1 : (2147483647 : Int) < l.length
  · exact sbl_big cv _ _ l l2 rfl rfl (.inl (by simpa using h1)) w
  by_cases h2 : (2147483647 : Int) < l2.length
  · exact sbl_big cv _ _ l l2 rfl rfl (.inr ⟨by simpa using h1, by simpa using h2⟩) w
  exact sbl_any cv _ _ l l2 (by omega) rfl rfl (by simpa using h1) (by simpa using h2) w
end Go.Proofs.YtfelfjdgmjapnaaDoor
