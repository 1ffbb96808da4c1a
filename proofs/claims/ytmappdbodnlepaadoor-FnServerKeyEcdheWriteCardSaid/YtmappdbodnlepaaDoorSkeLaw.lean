/- Walks: the law of a server's signed key exchange by a curve, written. -/
import Derived.Test.YtmappdbodnlepaaDoorSkeM
import Derived.Test.YtmappdbodnlepaaDoorCvw
import Derived.Test.YtmappdbodnlepaaDoorNums
namespace Go.Proofs.YtmappdbodnlepaaDoor
open Go.RowKit Go.Cv
set_option maxRecDepth 100000
set_option linter.unusedVariables false
def skMsg (cv h s : Nat) (pk sg : List UInt8) : Array Value := #[.int .u8 12, .bool false, .int .u8 0, .int .u8 0, .int .u32 0, .string (S []), .string (S []), .string (S []), .slice none 0 0, .slice none 0 0, .slice none 0 0, .slice none 0 0, .slice none 0 0, .slice none 0 0, .int .u16 (h : Int), .int .u16 (s : Int), .string (S sg), .string (S []), .string (S pk), .int .i64 4, .int .u8 3, .int .u16 (cv : Int), .string (S []), .string (S []), .slice none 0 0]
theorem skWrite_any (cv h s np ns : Nat) (pk sg : List UInt8) (hp : pk.length = np) (hp0 : 0 < np) (hp6 : np < 256) (hs : sg.length = ns) (hs0 : 0 < ns) (hs6 : ns < 60000) (hcv : (cv : Int) < 65536) (ok : OkP h s) (o : List UInt8) (ho : skOut cv h s np pk ns sg = o) (w : World) :
    Calls Tryd.prog 13 #[.agg (skMsg cv h s pk sg)] w fun e w' => e = .returned (.tuple #[.string (S o), .bool true]) ∧ Below w.heap.size w w' := by
  have hlp : pk.length ≤ maxLen := by simp only [maxLen]; omega
  have hls : sg.length ≤ maxLen := by simp only [maxLen]; omega
  obtain ⟨cs, hcs⟩ : ∃ cs, skMsg cv h s pk sg = cs := ⟨_, rfl⟩
  have HM := Lib.hid (fun w => makeSk_any cv h s pk sg hlp hls cs (by rw [← hcs]; rfl) (by rw [← hcs]; rfl) (by rw [← hcs]; rfl) (by rw [← hcs]; rfl) (by rw [← hcs]; rfl) (by rw [← hcs]; rfl) (by rw [← hcs]; rfl) (by rw [← hcs]; rfl) w)
  have HC : Hid (∀ b ra c1 rb c2 (w : World), Blk w b 87 (skRow cv h s ra np c1 rb ns c2) → Rd w (some ⟨ra, 0, none⟩) (vs pk) → Rd w (some ⟨rb, 0, none⟩) (vs sg) → Calls Tryd.prog 32 #[.pointer (some ⟨b, 0, none⟩)] w fun e w' => ∃ A' n' c', e = .returned (.tuple #[.slice A' n' c', .nilIface]) ∧ o.length = n' ∧ Rd w' A' (vs o) ∧ Below w.heap.size w w') := Lib.hid (fun b ra c1 rb c2 w hk hr1 hr2 => by
    rw [← ho]
    exact marshalSk_any b cv h s ra np c1 rb ns c2 pk sg hp hp0 hp6 hs hs0 hs6 hcv ok w hk hr1 hr2)
  have HP := Lib.hid hp
  have HS := Lib.hid hs
  have hi : (Tryd.prog.info? 45).map (·.size) = some cs.size := by rw [← hcs]; exact cvMsgInfo
  rw [hcs]
  clear hp hp0 hp6 hs hs0 hs6 hcv ok hlp hls hcs ho
  go_enter Tryd.func13, Tryd.ntmps13
  have hg := heap_alloc_new w (.cells cs 45)
  go_wp2_with (with_reducible refine wpList_load_row rfl 45 (.tmp 1) rfl w.heap.size (by with_unfolding_all rfl) 45 cs (0, 0) _ hg Tryd.underlying45 (by with_unfolding_all rfl) hi ?_)
  clear hi hg
  go_wp2_with fail
  refine (HM.out _).mono ?_
  rintro e w1 ⟨b, ra, c1, rb, c2, rfl, hk, hr1, hr2, hb1⟩
  rw [HP.out, HS.out] at hk
  have HCC := Lib.hid (HC.out b ra c1 rb c2 w1 hk hr1 hr2)
  have HB1 := Lib.hid (below_two (below_alloc w _) hb1)
  clear hk hr1 hr2 hb1 HM HC
  go_wp2_with fail
  refine HCC.out.mono ?_
  rintro e w2 ⟨A', n', c', rfl, hn', hr2, hb2⟩
  have HT := Lib.hid (text_any A' n' c' _ hn' w2 hr2)
  have HB2 := Lib.hid (below_two HB1.out hb2)
  clear hn' hr2 hb2
  go_wp2_with fail
  refine HT.out.mono ?_
  rintro e w3 ⟨rfl, rfl⟩
  go_wp2_with fail
  go_ret2
  exact ⟨rfl, HB2.out⟩
theorem skl_big (cv h s np ns : Nat) (pk sg : List UInt8) (hp : pk.length = np) (hs : sg.length = ns) (h1 : decide ((2147483647 : Int) < np) = true ∨ (decide ((2147483647 : Int) < np) = false ∧ decide ((2147483647 : Int) < ns) = true)) (w : World) :
    Calls Tryd.prog 4 #[.int .u16 (cv : Int), .string (S pk), .agg #[.int .u16 (h : Int), .int .u16 (s : Int)], .string (S sg)] w fun e w' => e = .returned (.bool true) ∧ Below w.heap.size w w' := by
  have h3 : (S pk).size = np := by rw [S_size, hp]
  have h4 : (S sg).size = ns := by rw [S_size, hs]
  rcases h1 with h1 | ⟨h1, h2⟩
  all_goals
    go_enter Tryd.func4, Tryd.ntmps4
    go_wp2_with fail
    go_ret
    exact ⟨rfl, below_alloc _ _⟩
theorem sk_among (g : Nat) (W : World) (x : Nat) (hx : W.heap.size = x) : Calls Tryd.prog 11 #[.int .u16 (g : Int), .slice (some ⟨x, 0, none⟩) 3 3] (W.alloc (.cells #[.int .u16 23, .int .u16 24, .int .u16 29] 22)) fun e w' => e = .returned (.bool ([23, 24, 29].contains g)) ∧ W.alloc (.cells #[.int .u16 23, .int .u16 24, .int .u16 29] 22) = w' := by
  subst hx
  exact among_any W.heap.size 0 3 3 g [23, 24, 29] rfl (by omega) _ (rd_new W _ _)
set_option maxHeartbeats 2000000 in
theorem skl_any (cv h s np ns : Nat) (pk sg : List UInt8) (hcv : (cv : Int) < 65536) (hp : pk.length = np) (hs : sg.length = ns) (h1 : decide ((2147483647 : Int) < np) = false) (h2 : decide ((2147483647 : Int) < ns) = false) (w : World) :
    Calls Tryd.prog 4 #[.int .u16 (cv : Int), .string (S pk), .agg #[.int .u16 (h : Int), .int .u16 (s : Int)], .string (S sg)] w fun e w' => e = .returned (.bool true) ∧ Below w.heap.size w w' := by
  have h3 : (S pk).size = np := by rw [S_size, hp]
  have h4 : (S sg).size = ns := by rw [S_size, hs]
  have HS := Lib.hid (fun w => scheme_any h s w)
  have HP := Lib.hid hp
  have HG := Lib.hid hs
  have HCV := Lib.hid hcv
  have hbW := below_alloc w (.cells #[.int .u16 (h : Int), .int .u16 (s : Int)] 33)
  have kp : ∀ w', Below (w.alloc (.cells #[.int .u16 (h : Int), .int .u16 (s : Int)] 33)).heap.size (w.alloc (.cells #[.int .u16 (h : Int), .int .u16 (s : Int)] 33)) w' → w'.cell? ⟨w.heap.size, 0, none⟩ = some (.int .u16 (h : Int)) ∧ w'.cell? ⟨w.heap.size, 1, none⟩ = some (.int .u16 (s : Int)) := fun w' hb => by
    have hk := (Blk.new w 33 #[.int .u16 (h : Int), .int .u16 (s : Int)]).keep hb
    exact ⟨(hk.cell 0).trans rfl, (hk.cell 1).trans rfl⟩
  have KP := Lib.hid kp
  have HAM := Lib.hid (sk_among cv (w.alloc (.cells #[.int .u16 (h : Int), .int .u16 (s : Int)] 33)) (w.heap.size + 1) (World.size_alloc _ _))
  have hb1 := below_alloc (w.alloc (.cells #[.int .u16 (h : Int), .int .u16 (s : Int)] 33)) (.cells #[.int .u16 23, .int .u16 24, .int .u16 29] 22)
  obtain ⟨k0, k1⟩ := KP.out _ hb1
  have HBW := Lib.hid (below_two hbW hb1)
  have HB1 := Lib.hid hb1
  have fin : ∀ w', Below (w.alloc (.cells #[.int .u16 (h : Int), .int .u16 (s : Int)] 33)).heap.size (w.alloc (.cells #[.int .u16 (h : Int), .int .u16 (s : Int)] 33)) w' → Below w.heap.size w w' := fun w' hb => below_two hbW hb
  have FIN := Lib.hid fin
  clear hp hs kp hbW hcv hb1 fin
  cases hc : [23, 24, 29].contains cv with
  | false =>
    rw [hc] at HAM
    go_enter Tryd.func4, Tryd.ntmps4
    go_wp2_with fail
    refine HAM.out.mono ?_
    rintro e w1 ⟨rfl, rfl⟩
    go_wp2_with fail
    go_ret
    exact ⟨rfl, HBW.out⟩
  | true =>
    rw [hc] at HAM
    by_cases p0 : np = 0
    · subst p0
      go_enter Tryd.func4, Tryd.ntmps4
      go_wp2_with fail
      refine HAM.out.mono ?_
      rintro e w1 ⟨rfl, rfl⟩
      go_wp2_with fail
      go_ret
      exact ⟨rfl, HBW.out⟩
    have t0 : 0 < np := by omega
    have t0' : decide ((0 : Int) < np) = true := by simp; omega
    by_cases p6 : np < 256
    case neg =>
      have t6 : decide ((np : Int) < 256) = false := by simp; omega
      have t6' : ¬ np < 256 := p6
      go_enter Tryd.func4, Tryd.ntmps4
      go_wp2_with fail
      refine HAM.out.mono ?_
      rintro e w1 ⟨rfl, rfl⟩
      go_wp2_with fail
      go_ret
      exact ⟨rfl, HBW.out⟩
    have t6 : decide ((np : Int) < 256) = true := by simp; omega
    go_enter Tryd.func4, Tryd.ntmps4
    go_wp2_with fail
    refine HAM.out.mono ?_
    rintro e w1 ⟨rfl, rfl⟩
    go_wp2_with fail
    refine (HS.out _).mono ?_
    rintro e w1 ⟨d, rfl, hd, hb1⟩
    cases d with
    | false =>
      clear hd
      go_wp2_with fail
      go_ret
      exact ⟨rfl, FIN.out _ (below_two HB1.out hb1)⟩
    | true =>
      have OK := Lib.hid (hd rfl)
      have HB2 := Lib.hid (below_two HB1.out hb1)
      obtain ⟨k0, k1⟩ := KP.out w1 HB2.out
      clear hd hb1 HS
      by_cases q0 : ns = 0
      · subst q0
        go_wp2_with fail
        go_ret
        exact ⟨rfl, FIN.out _ HB2.out⟩
      have r0 : 0 < ns := by omega
      have r0' : decide ((0 : Int) < ns) = true := by simp; omega
      by_cases q6 : ns < 60000
      case neg =>
        have r6 : decide ((ns : Int) < 60000) = false := by simp; omega
        have r6' : ¬ ns < 60000 := q6
        go_wp2_with fail
        go_ret
        exact ⟨rfl, FIN.out _ HB2.out⟩
      have r6 : decide ((ns : Int) < 60000) = true := by simp; omega
      obtain ⟨o, ho⟩ : ∃ o, skOut cv h s np pk ns sg = o := ⟨_, rfl⟩
      have HCW := Lib.hid (fun w => skWrite_any cv h s np ns pk sg HP.out t0 p6 HG.out r0 q6 HCV.out OK.out o ho w)
      have HPW := Lib.hid (fun w => pairWrite_ok h s OK.out w)
      have HV : Hid (∀ W, Calls Tryd.prog 15 #[.string (S pk), .int .i64 1] W fun e w' => e = .returned (.string (S (be 1 pk.length ++ pk))) ∧ Below W.heap.size W w') := Lib.hid (fun W => vec_any 1 (by omega) pk (by rw [HP.out]; omega) W)
      have HU : Hid (∀ W, Calls Tryd.prog 15 #[.string (S sg), .int .i64 2] W fun e w' => e = .returned (.string (S (be 2 sg.length ++ sg))) ∧ Below W.heap.size W w') := Lib.hid (fun W => vec_any 2 (by omega) sg (by rw [HG.out]; omega) W)
      have HB : Hid (∀ W, Calls Tryd.prog 14 #[.int .u64 (cv : Int), .int .i64 2] W fun e w' => e = .returned (.string (S (be 2 cv))) ∧ Below W.heap.size W w') := Lib.hid (fun W => big_any 2 (by omega) cv W)
      rw [HP.out] at HV
      rw [HG.out] at HU
      obtain ⟨x1, hx1⟩ : ∃ x, be 2 cv = x := ⟨_, rfl⟩
      obtain ⟨x2, hx2⟩ : ∃ x, be 1 np ++ pk = x := ⟨_, rfl⟩
      obtain ⟨x3, hx3⟩ : ∃ x, be 2 (code h s) = x := ⟨_, rfl⟩
      obtain ⟨x4, hx4⟩ : ∃ x, be 2 ns ++ sg = x := ⟨_, rfl⟩
      have l1 : x1.length = 2 := by rw [← hx1, be_length]
      have l2 : x2.length = 1 + np := by rw [← hx2, List.length_append, be_length, HP.out]
      have l3 : x3.length = 2 := by rw [← hx3, be_length]
      have l4 : x4.length = 2 + ns := by rw [← hx4, List.length_append, be_length, HG.out]
      have ho' : [3] ++ x1 ++ x2 ++ x3 ++ x4 = o := by rw [← ho, ← hx1, ← hx2, ← hx3, ← hx4]; simp [skOut]
      rw [hx1] at HB
      rw [hx2] at HV
      rw [hx3] at HPW
      rw [hx4] at HU
      clear hx1 hx2 hx3 hx4 ho
      obtain ⟨y1, hy1⟩ : ∃ x, [3] ++ x1 = x := ⟨_, rfl⟩
      rw [hy1] at ho'
      obtain ⟨y2, hy2⟩ : ∃ x, y1 ++ x2 = x := ⟨_, rfl⟩
      rw [hy2] at ho'
      obtain ⟨y3, hy3⟩ : ∃ x, y2 ++ x3 = x := ⟨_, rfl⟩
      rw [hy3] at ho'
      have m1 : y1.length = 3 := by rw [← hy1, List.length_append, l1]; rfl
      have m2 : y2.length = 4 + np := by rw [← hy2, List.length_append, l2, m1]; omega
      have m3 : y3.length = 6 + np := by rw [← hy3, List.length_append, l3, m2]; omega
      have m4 : o.length = 8 + np + ns := by rw [← ho', List.length_append, l4, m3]; omega
      have a1 : ∀ w1, (Op.stringOp .add { data := #[3] } (S x1)).run Tryd.prog w1 = .ok (.string (S y1)) w1 := fun w1 => run_add_eq [3] x1 y1 hy1 (by omega) w1
      have a2 := fun w1 => run_add_eq (P := Tryd.prog) y1 x2 y2 hy2 (by omega) w1
      have a3 := fun w1 => run_add_eq (P := Tryd.prog) y2 x3 y3 hy3 (by omega) w1
      have a4 := fun w1 => run_add_eq (P := Tryd.prog) y3 x4 o ho' (by omega) w1
      have wc : IntKind.u64.wrap (cv : Int) = (cv : Int) := by have := HCV.out; rw [IntKind.wrap_u64]; omega
      clear l1 l2 l3 l4 m1 m2 m3 m4 hy1 hy2 hy3 ho' p0 q0
      unfold skMsg at HCW
      go_wp2_with fail
      refine (HCW.out _).mono ?_
      rintro e w3 ⟨rfl, hb3⟩
      have HB3 := Lib.hid (below_two HB2.out hb3)
      clear hb3 HCW k0 k1
      have HKP : Hid (∀ w', Below w3.heap.size w3 w' → w'.cell? ⟨w.heap.size, 0, none⟩ = some (.int .u16 (h : Int)) ∧ w'.cell? ⟨w.heap.size, 1, none⟩ = some (.int .u16 (s : Int))) := Lib.hid (fun w' hb => KP.out w' (below_two HB3.out hb))
      go_wp2_with fail
      go_region_held_law (fun w' => w'.cell? ⟨w.heap.size, 0, none⟩ = some (.int .u16 (h : Int)) ∧ w'.cell? ⟨w.heap.size, 1, none⟩ = some (.int .u16 (s : Int)))
        ((refine HKP.out _ ?_; (repeat (first | exact Below.refl _ _ | refine below_two ?_ hb1 | refine below_two ?_ hb2 | refine below_two ?_ hb3 | refine below_two ?_ hb4 | refine Below.drew ?_ | refine below_two ?_ (below_alloc _ _))); done)) (first
        | (go_at_call 14; with_reducible refine (HB.out _).mono ?_; rintro e w1 ⟨rfl, hb1⟩)
        | (go_at_call 15; with_reducible refine (HV.out _).mono ?_; rintro e w2 ⟨rfl, hb2⟩)
        | (go_at_call 15; with_reducible refine (HU.out _).mono ?_; rintro e w3 ⟨rfl, hb3⟩)
        | (go_at_call 16; with_reducible refine (HPW.out _).mono ?_; rintro e w4 ⟨rfl, hb4⟩))
      all_goals
        go_wp2_with fail
        go_ret
        refine ⟨by simp, FIN.out _ (below_two HB3.out ?_)⟩
        (repeat (first | exact Below.refl _ _ | refine below_two ?_ hb1 | refine below_two ?_ hb2 | refine below_two ?_ hb3 | refine below_two ?_ hb4 | refine Below.drew ?_ | refine below_two ?_ (below_alloc _ _)))
theorem skl_row (x : Int) (wx : (Lit.int .u16 x).wf = true) (l : List UInt8) (cs : Array Value) (hk : cs.size = 2) (x0 : Int) (e0 : cs[0]? = some (.int .u16 x0)) (w0 : (Lit.int .u16 x0).wf = true) (x1 : Int) (e1 : cs[1]? = some (.int .u16 x1)) (w1 : (Lit.int .u16 x1).wf = true) (l2 : List UInt8) (w : World) {p : Prop} (ad0 : Addr) (g0 : p) :
    Calls Tryd.prog 4 #[.int .u16 x, .string (S l), .agg cs, .string (S l2)] w fun e w' => e = .returned (.bool true) ∧ Below w.heap.size w w' := by
  obtain ⟨cv, rfl, hcv⟩ := nat_u16 wx
  obtain ⟨h, rfl, _⟩ := nat_u16 w0
  obtain ⟨s, rfl, _⟩ := nat_u16 w1
  have : cs = #[.int .u16 (h : Int), .int .u16 (s : Int)] := by
    apply Array.ext_getElem?
    intro i
    match i with
    | 0 => simpa using e0
    | 1 => simpa using e1
    | i + 2 => rw [Array.getElem?_eq_none (by omega), Array.getElem?_eq_none (by simp)]
  subst this
  by_cases h1 : (2147483647 : Int) < l.length
  · exact skl_big cv h s _ _ l l2 rfl rfl (.inl (by simpa using h1)) w
  by_cases h2 : (2147483647 : Int) < l2.length
  · exact skl_big cv h s _ _ l l2 rfl rfl (.inr ⟨by simpa using h1, by simpa using h2⟩) w
  exact skl_any cv h s _ _ l l2 (by omega) rfl rfl (by simpa using h1) (by simpa using h2) w
end Go.Proofs.YtmappdbodnlepaaDoor
