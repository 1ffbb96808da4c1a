/- Walks: the law of a server's key share, written. -/
import Derived.Test.YtgnkfpfgolhokaaDoorKswM
namespace Go.Proofs.YtgnkfpfgolhokaaDoor
open Go.RowKit Go.Cv
set_option maxRecDepth 100000
set_option linter.unusedVariables false
theorem fits9_big (g n : Nat) (l : List UInt8) (hn : l.length = n) (h : decide ((2147483647 : Int) < n) = true) (w : World) :
    Calls Tryd.prog 17 #[.agg #[.int .u16 (g : Int), .string (S l)]] w fun e w' => e = .returned (.bool false) ∧ Below w.heap.size w w' := by
  have h3 : (S l).size = n := by rw [S_size, hn]
  go_enter Tryd.func17, Tryd.ntmps17
  go_wp2_with fail
  go_ret
  exact ⟨rfl, below_alloc _ _⟩
theorem fits9_ok (g n : Nat) (l : List UInt8) (hn : l.length = n) (h : decide ((2147483647 : Int) < n) = false) (w : World) :
    Calls Tryd.prog 17 #[.agg #[.int .u16 (g : Int), .string (S l)]] w fun e w' => e = .returned (.bool true) ∧ Below w.heap.size w w' := by
  have h3 : (S l).size = n := by rw [S_size, hn]
  go_enter Tryd.func17, Tryd.ntmps17
  go_wp2_with fail
  go_ret
  exact ⟨rfl, below_alloc _ _⟩
def Sh1Post (g n : Nat) (w : World) (e : Ending) (w' : World) : Prop := ∃ d : Bool, e = .returned (.bool d) ∧ (d = true → g < 65536 ∧ 0 < n ∧ n ≤ 5000) ∧ Below w.heap.size w w'
theorem sh_among (g : Nat) (W : World) (x : Nat) (hx : W.heap.size = x) : Calls Tryd.prog 33 #[.int .u16 (g : Int), .slice (some ⟨x, 0, none⟩) 3 3] (W.alloc (.cells #[.int .u16 23, .int .u16 24, .int .u16 29] 24)) fun e w' => e = .returned (.bool ([23, 24, 29].contains g)) ∧ W.alloc (.cells #[.int .u16 23, .int .u16 24, .int .u16 29] 24) = w' := by
  subst hx
  exact among_any W.heap.size 0 3 3 g [23, 24, 29] rfl (by omega) _ (rd_new W _ _)
set_option maxHeartbeats 2000000 in
theorem shares1_any (s c g n : Nat) (l : List UInt8) (hn : l.length = n) (hn3 : (n : Int) ≤ 2147483647) (w : World) (hs : Blk w s 44 (shRow g l)) :
    Calls Tryd.prog 18 #[.slice (some ⟨s, 0, none⟩) 1 c] w (Sh1Post g n w) := by
  have h3 : (S l).size = n := by rw [S_size, hn]
  have s0 := (hs.cell 0).trans (rfl : _ = some (Value.int .u16 (g : Int)))
  have s1 := (hs.cell 1).trans (rfl : _ = some (Value.string (S l)))
  have hss := hs.lt
  have HAM := Lib.hid (sh_among g (w.alloc (.cells #[.int .u16 (g : Int), .string (S l)] 44)) (w.heap.size + 1) (World.size_alloc _ _))
  have HN := Lib.hid hn
  clear hn hs
  cases hc : [23, 24, 29].contains g with
  | false =>
    rw [hc] at HAM
    go_enter Tryd.func18, Tryd.ntmps18
    go_wp2_with fail
    refine wp_loop_rounds 1 ?_
    rw [rounds_succ]
    go_wp2_with fail
    refine HAM.out.mono ?_
    rintro e w1 ⟨rfl, rfl⟩
    go_wp2_with fail
    go_ret
    exact ⟨false, rfl, by simp, below_two (below_alloc _ _) (below_alloc _ _)⟩
  | true =>
    rw [hc] at HAM
    have hg : g < 65536 := by
      simp at hc
      omega
    have HG := Lib.hid hg
    clear hg hc
    by_cases h1 : n < 1
    · have t1 : decide ((n : Int) < 1) = true := by simp; omega
      have t1' : n = 0 := by omega
      go_enter Tryd.func18, Tryd.ntmps18
      go_wp2_with fail
      refine wp_loop_rounds 1 ?_
      rw [rounds_succ]
      go_wp2_with fail
      refine HAM.out.mono ?_
      rintro e w1 ⟨rfl, rfl⟩
      go_wp2_with fail
      go_ret
      exact ⟨false, rfl, by simp, below_two (below_alloc _ _) (below_alloc _ _)⟩
    have t1 : decide ((n : Int) < 1) = false := by simp; omega
    have t1' : ¬ n = 0 := by omega
    have t1'' : ¬ n < 1 := h1
    by_cases h5 : 5000 < n
    · have t2 : decide ((5000 : Int) < n) = true := by simp; omega
      have t2' : 5000 < n := h5
      go_enter Tryd.func18, Tryd.ntmps18
      go_wp2_with fail
      refine wp_loop_rounds 1 ?_
      rw [rounds_succ]
      go_wp2_with fail
      refine HAM.out.mono ?_
      rintro e w1 ⟨rfl, rfl⟩
      go_wp2_with fail
      go_ret
      exact ⟨false, rfl, by simp, below_two (below_alloc _ _) (below_alloc _ _)⟩
    have t2 : decide ((5000 : Int) < n) = false := by simp; omega
    have t2' : ¬ 5000 < n := h5
    have H0 : Hid (0 < n ∧ n ≤ 5000) := Lib.hid (by omega)
    clear h1 h5
    go_enter Tryd.func18, Tryd.ntmps18
    go_wp2_with fail
    refine wp_loop_rounds 2 ?_
    rw [rounds_succ]
    go_wp2_with fail
    refine HAM.out.mono ?_
    rintro e w1 ⟨rfl, rfl⟩
    go_wp2_with fail
    refine wp_loop_rounds 1 ?_
    rw [rounds_succ]
    go_wp2_with fail
    rw [rounds_succ]
    go_wp2_with fail
    go_ret
    exact ⟨true, by simp, fun _ => ⟨HG.out, H0.out.1, H0.out.2⟩, below_two (below_alloc _ _) (below_alloc _ _)⟩
set_option maxHeartbeats 2000000 in
theorem offers1_any (s c g n : Nat) (l : List UInt8) (hn : l.length = n) (h6 : n ≤ 5000) (hg : g < 65536) (w : World) (hs : Blk w s 44 (shRow g l)) :
    Calls Tryd.prog 20 #[.slice (some ⟨s, 0, none⟩) 1 c] w fun e w' => e = .returned (.string (S (be 2 g ++ (be 2 n ++ l)))) ∧ Below w.heap.size w w' := by
  have s0 := (hs.cell 0).trans (rfl : _ = some (Value.int .u16 (g : Int)))
  have s1 := (hs.cell 1).trans (rfl : _ = some (Value.string (S l)))
  have hss := hs.lt
  have wg : IntKind.u64.wrap (g : Int) = (g : Int) := by rw [IntKind.wrap_u64]; omega
  have HB : Hid (∀ W, Calls Tryd.prog 16 #[.int .u64 (g : Int), .int .i64 2] W fun e w' => e = .returned (.string (S (be 2 g))) ∧ Below W.heap.size W w') := Lib.hid (fun W => big_any 2 (by omega) g W)
  have HV : Hid (∀ W, Calls Tryd.prog 13 #[.string (S l), .int .i64 2] W fun e w' => e = .returned (.string (S (be 2 n ++ l))) ∧ Below W.heap.size W w') := Lib.hid (fun W => by have := vec_any 2 (by omega) l (by omega) W; rw [hn] at this; exact this)
  have ha1 := fun w => run_add_eq (P := Tryd.prog) (be 2 g) (be 2 n ++ l) _ rfl (by rw [List.length_append, List.length_append, be_length, be_length, hn]; omega) w
  have ha2 : ∀ w, (Op.stringOp .add (ByteArray.mk #[]) (S (be 2 g ++ (be 2 n ++ l)))).run Tryd.prog w = .ok (.string (S (be 2 g ++ (be 2 n ++ l)))) w := fun w => run_add_eq (P := Tryd.prog) [] (be 2 g ++ (be 2 n ++ l)) _ rfl (by rw [List.nil_append, List.length_append, List.length_append, be_length, be_length, hn]; omega) w
  clear hn h6 hg hs
  go_enter Tryd.func20, Tryd.ntmps20
  go_wp2_with fail
  refine wp_loop_rounds 2 ?_
  rw [rounds_succ]
  go_wp2_with fail
  have HBX : Hid (∀ w', Below (w.alloc (.cells #[.int .u16 (g : Int), .string (S l)] 44)).heap.size (w.alloc (.cells #[.int .u16 (g : Int), .string (S l)] 44)) w' → w'.cell? ⟨w.heap.size, 0, none⟩ = some (.int .u16 (g : Int)) ∧ w'.cell? ⟨w.heap.size, 1, none⟩ = some (.string (S l))) := Lib.hid (fun w' hb => by
    have h := (Blk.new w 44 #[.int .u16 (g : Int), .string (S l)]).keep hb
    exact ⟨(h.cell 0).trans rfl, (h.cell 1).trans rfl⟩)
  have hbW := below_alloc w (.cells #[.int .u16 (g : Int), .string (S l)] 44)
  generalize w.alloc (.cells #[.int .u16 (g : Int), .string (S l)] 44) = W at *
  go_region_held_law (fun w' => w'.cell? ⟨w.heap.size, 0, none⟩ = some (.int .u16 (g : Int)) ∧ w'.cell? ⟨w.heap.size, 1, none⟩ = some (.string (S l))) ((refine HBX.out _ ?_; (repeat (first | exact Below.refl _ _ | refine below_two ?_ hb2 | refine below_two ?_ hb3 | refine Below.drew ?_)); done)) (first
    | (go_at_call 16; with_reducible refine (HB.out _).mono ?_; rintro e w2 ⟨rfl, hb2⟩)
    | (go_at_call 13; with_reducible refine (HV.out _).mono ?_; rintro e w3 ⟨rfl, hb3⟩))
  have HBB : Hid (Below w.heap.size w w3) := Lib.hid (below_two hbW (below_two (below_two (below_drew W) hb2) hb3))
  clear hb2 hb3 HBX HB HV hbW
  go_wp2_with fail
  rw [rounds_succ]
  go_wp2_with fail
  go_ret
  exact ⟨rfl, HBB.out⟩
theorem ksl_big (g n : Nat) (l : List UInt8) (hn : l.length = n) (h1 : decide ((2147483647 : Int) < n) = true) (w : World) :
    Calls Tryd.prog 6 #[.agg #[.int .u16 (g : Int), .string (S l)]] w fun e w' => e = .returned (.bool true) ∧ Below w.heap.size w w' := by
  have HF := Lib.hid (fun W => fits9_big g n l hn h1 W)
  go_enter Tryd.func6, Tryd.ntmps6
  go_wp2_with fail
  refine (HF.out _).mono ?_
  rintro e w1 ⟨rfl, hb1⟩
  go_wp2_with fail
  go_ret
  exact ⟨rfl, below_two (below_alloc _ _) hb1⟩
set_option maxHeartbeats 2000000 in
theorem ksl_any (g n : Nat) (hg6 : (g : Int) < 65536) (l : List UInt8) (hn : l.length = n) (h1 : decide ((2147483647 : Int) < n) = false) (hn3 : (n : Int) ≤ 2147483647) (w : World) :
    Calls Tryd.prog 6 #[.agg #[.int .u16 (g : Int), .string (S l)]] w fun e w' => e = .returned (.bool true) ∧ Below w.heap.size w w' := by
  have h3 : (S l).size = n := by rw [S_size, hn]
  have HF := Lib.hid (fun W => fits9_ok g n l hn h1 W)
  have HS := Lib.hid (fun s W hs => shares1_any s 1 g n l hn hn3 W hs)
  have HN := Lib.hid hn
  have wg : IntKind.i64.wrap (g : Int) = (g : Int) := by rw [IntKind.wrap_i64]; omega
  have wg' : wrap64 (g : Int) = (g : Int) := by unfold wrap64; omega
  have wn : wrap64 ((n : Int) + 2) = (n : Int) + 2 := by unfold wrap64; omega
  have KP : Hid (∀ w', Below (w.alloc (.cells #[.int .u16 (g : Int), .string (S l)] 44)).heap.size (w.alloc (.cells #[.int .u16 (g : Int), .string (S l)] 44)) w' → w'.cell? ⟨w.heap.size, 0, none⟩ = some (.int .u16 (g : Int)) ∧ w'.cell? ⟨w.heap.size, 1, none⟩ = some (.string (S l))) := Lib.hid (fun w' hb => by
    have h := (Blk.new w 44 #[.int .u16 (g : Int), .string (S l)]).keep hb
    exact ⟨(h.cell 0).trans rfl, (h.cell 1).trans rfl⟩)
  have HBW := Lib.hid (below_alloc w (.cells #[.int .u16 (g : Int), .string (S l)] 44))
  clear hn hn3 hg6
  go_enter Tryd.func6, Tryd.ntmps6
  go_wp2_with fail
  generalize w.alloc (.cells #[.int .u16 (g : Int), .string (S l)] 44) = W at *
  refine (HF.out _).mono ?_
  rintro e w1 ⟨rfl, hb1⟩
  obtain ⟨k0, k1⟩ := KP.out w1 hb1
  have HB1 := Lib.hid hb1
  clear hb1 HF
  go_wp2_with fail
  refine (HS.out w1.heap.size (w1.alloc (.cells #[.int .u16 (g : Int), .string (S l)] 44)) (Blk.new _ _ _)).mono ?_
  rintro e w2 ⟨d, rfl, hd, hb2⟩
  have HB2 := Lib.hid (below_two HB1.out (below_two (below_alloc w1 _) hb2))
  obtain ⟨k0, k1⟩ := KP.out w2 HB2.out
  clear hb2 HS
  cases d with
  | false =>
    clear hd
    go_wp2_with fail
    go_ret
    exact ⟨rfl, below_two HBW.out HB2.out⟩
  | true =>
    obtain ⟨hg, h0, h5⟩ := hd rfl
    clear hd
    by_cases hq : (n : Int) + 2 = g
    · have tq : (((n : Int) + 2) != (g : Int)) = false := by simpa using hq
      clear hg h0 h5
      go_wp2_with fail
      go_ret
      exact ⟨rfl, below_two HBW.out HB2.out⟩
    · have tq : (((n : Int) + 2) != (g : Int)) = true := by simpa using hq
      have HW := Lib.hid (fun s W hs => ksWrite_any g s 1 n l HN.out h0 h5 W hs)
      have HO := Lib.hid (fun s W hs => offers1_any s 1 g n l HN.out h5 hg W hs)
      have HFE := Lib.hid (fun W => framedExt_any 51 (by omega) (be 2 g ++ (be 2 n ++ l)) (by rw [List.length_append, List.length_append, be_length, be_length, HN.out]; omega) W)
      unfold extKs at HW
      clear hg h0 h5 hq
      go_wp2_with fail
      refine (HW.out w2.heap.size (w2.alloc (.cells #[.int .u16 (g : Int), .string (S l)] 44)) (Blk.new _ _ _)).mono ?_
      rintro e w3 ⟨rfl, hb3⟩
      have HB3 := Lib.hid (below_two HB2.out (below_two (below_alloc w2 _) hb3))
      obtain ⟨k0, k1⟩ := KP.out w3 HB3.out
      clear hb3 HW
      go_wp2_with fail
      refine (HO.out w3.heap.size (w3.alloc (.cells #[.int .u16 (g : Int), .string (S l)] 44)) (Blk.new _ _ _)).mono ?_
      rintro e w4 ⟨rfl, hb4⟩
      have HB4 := Lib.hid (below_two HB3.out (below_two (below_alloc w3 _) hb4))
      clear hb4 HO
      go_wp2_with fail
      refine (HFE.out w4).mono ?_
      rintro e w5 ⟨rfl, hb5⟩
      have HE : Hid (S (ksOut g n l) = S (be 2 51 ++ (be 2 (be 2 g ++ (be 2 n ++ l)).length ++ (be 2 g ++ (be 2 n ++ l))))) := Lib.hid rfl
      rw [HE.out]
      go_wp2_with fail
      go_ret
      exact ⟨by simp, below_two HBW.out (below_two HB4.out hb5)⟩
theorem ksl_row (cs : Array Value) (hk : cs.size = 2) (x0 : Int) (e0 : cs[0]? = some (.int .u16 x0)) (w0 : (Lit.int .u16 x0).wf = true) (l : List UInt8) (e1 : cs[1]? = some (.string (S l))) (w : World) {p q : Prop} (ad0 : Addr) (g0 : p) (ad1 : Addr) (g1 : q) :
    Calls Tryd.prog 6 #[.agg cs] w fun e w' => e = .returned (.bool true) ∧ Below w.heap.size w w' := by
  obtain ⟨g, rfl, hg⟩ := nat_u16 w0
  have : cs = #[.int .u16 (g : Int), .string (S l)] := by
    apply Array.ext_getElem?
    intro i
    match i with
    | 0 => simpa using e0
    | 1 => simpa using e1
    | i + 2 => rw [Array.getElem?_eq_none (by omega), Array.getElem?_eq_none (by simp)]
  subst this
  by_cases h1 : (2147483647 : Int) < l.length
  · exact ksl_big g _ l rfl (by simpa using h1) w
  · exact ksl_any g _ hg l rfl (by simpa using h1) (Int.not_lt.1 h1) w
end Go.Proofs.YtgnkfpfgolhokaaDoor
