/- Walks: one key share, written by the library. -/
import Derived.Test.YtgnkfpfgolhokaaDoorPskS
import Derived.Test.YtgnkfpfgolhokaaDoorNums
namespace Go.Proofs.YtgnkfpfgolhokaaDoor
open Go.RowKit Go.Cv
set_option maxRecDepth 100000
set_option linter.unusedVariables false
def extKs (s c : Nat) : Array Value := #[.int .u16 51, .string (S []), .slice none 0 0, .slice none 0 0, .slice none 0 0, .bool false, .int .u32 0, .bool false, .slice none 0 0, .slice (some ⟨s, 0, none⟩) 1 c, .slice none 0 0, .slice none 0 0, .slice none 0 0]
def shRow (g : Nat) (l : List UInt8) : Array Value := #[.int .u16 (g : Int), .string (S l)]
def ksEntry (g ra n c : Nat) : Array Value := #[.int .u16 (g : Int), .slice (some ⟨ra, 0, none⟩) n c]
set_option maxHeartbeats 2000000 in
theorem makeKs_any (g s c9 : Nat) (l : List UInt8) (hl : l.length ≤ maxLen) (cs : Array Value) (h8 : cs[8]? = some (.slice none 0 0)) (h9 : cs[9]? = some (.slice (some ⟨s, 0, none⟩) 1 c9)) (h10 : cs[10]? = some (.slice none 0 0)) (w : World) (hs : Blk w s 44 (shRow g l)) :
    Calls Tryd.prog 34 #[.agg cs] w fun e w' => ∃ b en ra c, e = .returned (.pointer (some ⟨b, 0, none⟩)) ∧ Blk w' b 113 #[.slice none 0 0, .pointer (some ⟨en, 0, none⟩), .pointer none] ∧ Blk w' en 116 (ksEntry g ra l.length c) ∧ Rd w' (some ⟨ra, 0, none⟩) (vs l) ∧ ra < w'.heap.size ∧ Below w.heap.size w w' := by
  have HL := Lib.hid hl
  have HS := Lib.hid hs
  have hss := hs.lt
  have s0 := hs.cell 0
  have s1 := hs.cell 1
  simp [shRow] at s0 s1
  clear hl hs
  go_enter Tryd.func34, Tryd.ntmps34
  go_wp2_with fail
  refine wp_loop_rounds 1 ?_
  rw [rounds_succ]
  go_wp2_with fail
  have hbW : Below w.heap.size w ((w.alloc (.cells cs 34)).alloc (.cells #[.slice none 0 0, .pointer none, .pointer none] 113)) := below_two (below_alloc _ _) (below_alloc _ _)
  have hm9 := ((Blk.new w 34 cs).alloc (.cells #[.slice none 0 0, .pointer none, .pointer none] 113)).cell 9
  rw [h9] at hm9
  have hkb := Blk.new (w.alloc (.cells cs 34)) 113 #[.slice none 0 0, .pointer none, .pointer none]
  rw [World.size_alloc] at hkb
  have hsz : ((w.alloc (.cells cs 34)).alloc (.cells #[.slice none 0 0, .pointer none, .pointer none] 113)).heap.size = w.heap.size + 2 := by rw [World.size_alloc, World.size_alloc]
  have hm10 := ((Blk.new w 34 cs).alloc (.cells #[.slice none 0 0, .pointer none, .pointer none] 113)).cell 10
  rw [h10] at hm10
  have HBW := Lib.hid hbW
  have HKB := Lib.hid hkb
  have HSZ := Lib.hid hsz
  have HM10 := Lib.hid hm10
  generalize (w.alloc (.cells cs 34)).alloc (.cells #[.slice none 0 0, .pointer none, .pointer none] 113) = W at *
  have HBX : Hid (∀ w', Below W.heap.size W w' → w'.cell? ⟨w.heap.size, 9, none⟩ = some (.slice (some ⟨s, 0, none⟩) 1 c9) ∧ w'.cell? ⟨s, 0, none⟩ = some (.int .u16 (g : Int)) ∧ w'.cell? ⟨s, 1, none⟩ = some (.string (S l))) := Lib.hid (fun w' hb => ⟨keep_of_below hb _ _ hm9, keep_of_below (below_two HBW.out hb) _ _ s0, keep_of_below (below_two HBW.out hb) _ _ s1⟩)
  clear hbW hm9 hkb hsz hm10 h8 h9 h10
  go_region_held_law (fun w' => w'.cell? ⟨w.heap.size, 9, none⟩ = some (.slice (some ⟨s, 0, none⟩) 1 c9) ∧ w'.cell? ⟨s, 0, none⟩ = some (.int .u16 (g : Int)) ∧ w'.cell? ⟨s, 1, none⟩ = some (.string (S l))) (first | (refine HBX.out _ ?_; (repeat (first | exact Below.refl _ _ | refine below_two ?_ hb1 | refine Below.drew ?_ | refine below_two ?_ (below_alloc _ _))); done) | (simp [go_sem, x9, x0, x1, l1, l2]; done)) (first
    | (refine upon_conv_sb 9 25 5 Tryd.underlying9 Tryd.underlying25 Tryd.underlying5 l HL.out ?_; intro c1 w1 hown hb1 hlt1; (first | (have hbw : Below W.heap.size W w1 := below_two (below_drew W) hb1) | (have hbw : Below W.heap.size W w1 := hb1)); have hk1 := HKB.out.keep hbw; have hk11 := (hk1.cell 1).trans (rfl : _ = some (Value.pointer none)); have hf11 := hk1.frozen 1; have hl11 := hk1.lt; have hxx := HBX.out w1 hbw; have x9 := hxx.1; have x0 := hxx.2.1; have x1 := hxx.2.2; have l1 := Nat.lt_trans hss (Nat.lt_trans (Nat.lt_succ_self _) hl11); have l2 := Nat.lt_trans (Nat.lt_succ_self _) hl11))
  have x10 := keep_of_below hbw _ _ HM10.out
  have hr1 := hown.rd
  have hlt : W.heap.size < w1.heap.size := hlt1
  have hbk : Blk ((w1.setCell ⟨w.heap.size + 1, 1, none⟩ (.pointer (some ⟨w1.heap.size, 0, none⟩))).alloc (.cells #[.int .u16 (g : Int), .slice (some ⟨W.heap.size, 0, none⟩) l.length c1] 116)) (w.heap.size + 1) 113 #[.slice none 0 0, .pointer (some ⟨w1.heap.size, 0, none⟩), .pointer none] := Blk.alloc (by simpa using hk1.set_ 1 (.pointer (some ⟨w1.heap.size, 0, none⟩))) _
  have hen := Blk.new (w1.setCell ⟨w.heap.size + 1, 1, none⟩ (.pointer (some ⟨w1.heap.size, 0, none⟩))) 116 (ksEntry g W.heap.size l.length c1)
  rw [World.size_setCell] at hen
  have hrr : Rd ((w1.setCell ⟨w.heap.size + 1, 1, none⟩ (.pointer (some ⟨w1.heap.size, 0, none⟩))).alloc (.cells #[.int .u16 (g : Int), .slice (some ⟨W.heap.size, 0, none⟩) l.length c1] 116)) (some ⟨W.heap.size, 0, none⟩) (vs l) := (Rd.tch (show Rd w1 (some ⟨W.heap.size, 0, none⟩) (vs l) from hr1) (Tch.set w1 (w.heap.size + 1) 1 (.pointer (some ⟨w1.heap.size, 0, none⟩))) (by rw [HSZ.out]; simp)).keep (below_alloc _ _)
  have hbb : Below w.heap.size w ((w1.setCell ⟨w.heap.size + 1, 1, none⟩ (.pointer (some ⟨w1.heap.size, 0, none⟩))).alloc (.cells #[.int .u16 (g : Int), .slice (some ⟨W.heap.size, 0, none⟩) l.length c1] 116)) := below_two ((below_two HBW.out hbw).setCell (p := ⟨w.heap.size + 1, 1, none⟩) (Nat.le_succ _) _) (below_alloc _ _)
  have hsw : W.heap.size < ((w1.setCell ⟨w.heap.size + 1, 1, none⟩ (.pointer (some ⟨w1.heap.size, 0, none⟩))).alloc (.cells #[.int .u16 (g : Int), .slice (some ⟨W.heap.size, 0, none⟩) l.length c1] 116)).heap.size := by rw [World.size_alloc, World.size_setCell]; exact Nat.lt_succ_of_lt hlt
  have x10' : ((w1.setCell ⟨w.heap.size + 1, 1, none⟩ (.pointer (some ⟨w1.heap.size, 0, none⟩))).alloc (.cells #[.int .u16 (g : Int), .slice (some ⟨W.heap.size, 0, none⟩) l.length c1] 116)).cell? ⟨w.heap.size, 10, none⟩ = some (.slice none 0 0) := keep_of_below (below_alloc _ _) _ _ ((Tch.set w1 (w.heap.size + 1) 1 _).cell x10 (by simp))
  have HBK := Lib.hid hbk
  have HEN : Hid (Blk ((w1.setCell ⟨w.heap.size + 1, 1, none⟩ (.pointer (some ⟨w1.heap.size, 0, none⟩))).alloc (.cells #[.int .u16 (g : Int), .slice (some ⟨W.heap.size, 0, none⟩) l.length c1] 116)) w1.heap.size 116 (ksEntry g W.heap.size l.length c1)) := hen
  have HRR := Lib.hid hrr
  have HBB := Lib.hid hbb
  have HSW := Lib.hid hsw
  clear hbk hen hrr hbb hsw hown hb1 hbw hk1 hk11 hf11 hl11 hxx x9 x0 x1 l1 l2 x10 hr1 hlt hlt1 s0 s1
  generalize (w1.setCell ⟨w.heap.size + 1, 1, none⟩ (.pointer (some ⟨w1.heap.size, 0, none⟩))).alloc (.cells #[.int .u16 (g : Int), .slice (some ⟨W.heap.size, 0, none⟩) l.length c1] 116) = X at *
  go_wp2_with fail
  go_ret
  exact ⟨_, w1.heap.size, W.heap.size, c1, rfl, HBK.out, HEN.out, HRR.out, HSW.out, HBB.out⟩
/-- The closure of an entry: the key. -/
theorem keFill (P0 : Nat → Prop) (w0 : World) (x g ra n c icb : Nat) (l : List UInt8) (hn : l.length = n) (hx : Blk w0 x 116 (ksEntry g ra n c)) (hr : Rd w0 (some ⟨ra, 0, none⟩) (vs l)) (hPx : P0 x) (hPr : P0 ra) :
    Fills P0 w0 77 #[.pointer (some ⟨x, 0, none⟩)] icb l := by
  intro w1 P q off pl k hsub hk hic hPi h0 hs hbp
  have h1 := (hx.kp hk hPx).cell 1
  simp [ksEntry] at h1
  have HA := Lib.hid (addPBytes_any P q (.pointer (some ⟨icb, 0, none⟩)) off pl k l (some ⟨ra, 0, none⟩) n c hn (by omega) (by omega) w1 hbp (hr.kp hk hPr))
  clear hx hr hPx hPr hsub hk hic hPi h0 hs hbp
  show Calls Tryd.prog 77 #[.pointer (some ⟨q, 0, none⟩), .pointer (some ⟨x, 0, none⟩)] w1 _
  go_enter Tryd.func77, Tryd.ntmps77
  go_wp2_with fail
  refine HA.out.mono ?_
  rintro e w2 ⟨rfl, h3, h4⟩
  go_wp2_with fail
  go_end0
  exact ⟨rfl, h3, h4⟩
/-- An entry, added to a child. -/
theorem addEntry_any (P : Nat → Prop) (q icb off pl g ra n c : Nat) (k l : List UInt8) (hn : l.length = n) (h6 : n ≤ 5000) (hs : k.length + 4 + n ≤ 280000) (w : World) (hbp : BP P w q (.pointer (some ⟨icb, 0, none⟩)) off pl k) (hic : w.cell? ⟨icb, 0, none⟩ = some (.bool true)) (hPi : P icb) (hPr : P ra) (hr : Rd w (some ⟨ra, 0, none⟩) (vs l)) :
    Calls Tryd.prog 65 #[.pointer (some ⟨q, 0, none⟩), .agg (ksEntry g ra n c)] w fun e w' => e = .returned (.tuple #[]) ∧ BP P w' q (.pointer (some ⟨icb, 0, none⟩)) off pl (k ++ (be 2 g ++ (be 2 n ++ l))) ∧ Kp P w w' := by
  have hmf : ∀ (fn : Fn) (first cap : Array Value) (w : World), (Instr.makeFunc fn first cap).run Tryd.prog w = .ok (.func fn first cap) w := fun _ _ _ _ => rfl
  have hPl : ∀ j, P j → j < w.heap.size := by obtain ⟨_, _, _, _, _, _, h⟩ := hbp; exact h
  have hba := below_alloc w (.cells (ksEntry g ra n c) 116)
  -- the box of the entry is kept, too
  have hbp1 : BP (fun j => P j ∨ j = w.heap.size) (w.alloc (.cells (ksEntry g ra n c) 116)) q (.pointer (some ⟨icb, 0, none⟩)) off pl k := by
    obtain ⟨A, cc, h1, h2, h3, h4, h5⟩ := hbp.keep hba
    have hq := hbp.lt
    refine ⟨A, cc, h1, h2, ?_, ?_, ?_⟩
    · obtain ⟨A', c', g1, g2, g3, _, _⟩ := hbp
      have e1 : A' = A := by
        have e := g1.keep hba
        have e2 : (some (Obj.cells (bldR A' k.length c' (.pointer none) (.pointer (some ⟨icb, 0, none⟩)) off pl) 83) : Option Obj) = some (Obj.cells (bldR A k.length cc (.pointer none) (.pointer (some ⟨icb, 0, none⟩)) off pl) 83) := e.symm.trans h1
        simp [bldR] at e2
        exact e2.1
      subst e1
      rcases g3 with rfl | ⟨a, rfl, p1, p2, p3⟩
      · exact .inl rfl
      · exact .inr ⟨a, rfl, fun h => by rcases h with h | h; exact p1 h; omega, p2, Nat.lt_of_lt_of_le p3 hba.size⟩
    · rintro (h | h)
      · exact h4 h
      · omega
    · rintro j (h | h)
      · exact h5 j h
      · rw [h, World.size_alloc]; omega
  have HA := Lib.hid (addP16_any _ q (.pointer (some ⟨icb, 0, none⟩)) off pl k g (by omega) _ hbp1)
  have HIC := Lib.hid (keep_of_below hba _ _ hic)
  have HB := Lib.hid (Blk.new w 116 (ksEntry g ra n c))
  have HR := Lib.hid (hr.keep hba)
  have HPI := Lib.hid hPi
  have HPR := Lib.hid hPr
  have HN := Lib.hid hn
  have H6 := Lib.hid h6
  have HS := Lib.hid hs
  have HPL := Lib.hid hPl
  clear hbp hbp1 hic hPi hPr hr hn h6 hs hba hPl
  show Calls Tryd.prog 65 #[.pointer (some ⟨q, 0, none⟩), .agg #[.int .u16 (g : Int), .slice (some ⟨ra, 0, none⟩) n c]] w _
  go_enter Tryd.func65, Tryd.ntmps65
  go_wp2_with fail
  refine HA.out.mono ?_
  rintro e w2 ⟨rfl, hb2, hk2⟩
  have HAL := Lib.hid (alp16In_any _ w2 77 #[.pointer (some ⟨w.heap.size, 0, none⟩)] q icb off pl (k ++ be 2 g) l (enters Tryd.func77 (by kernel_rfl) rfl) (by rw [HN.out]; have := H6.out; omega) (by rw [List.length_append, be_length, HN.out]; have := H6.out; have := HS.out; omega) hb2 (hk2.cell HIC.out (.inl HPI.out)) (.inl HPI.out) (keFill _ w2 w.heap.size g ra n c icb l HN.out (HB.out.kp hk2 (.inr rfl)) (HR.out.kp hk2 (.inl HPR.out)) (.inr rfl) (.inl HPR.out)))
  have HK2 := Lib.hid hk2
  clear hb2 hk2 HA
  go_wp2_with fail
  refine HAL.out.mono ?_
  rintro e w3 ⟨rfl, hb3, hk3⟩
  have HB3 := Lib.hid hb3
  have HK3 := Lib.hid (HK2.out.trans hk3)
  clear hb3 hk3 HAL
  go_wp2_with fail
  go_end0
  refine ⟨rfl, ?_, (Kp.alloc P w _).trans (HK3.out.less (fun j _ h => .inl h))⟩
  obtain ⟨A, cc, h1, h2, h3, h4, h5⟩ := HB3.out
  rw [HN.out, List.append_assoc] at h1 h2
  refine ⟨A, cc, h1, h2, ?_, fun h => h4 (.inl h), fun j h => h5 j (.inl h)⟩
  rcases h3 with rfl | ⟨a, rfl, p1, p2, p3⟩
  · exact .inl rfl
  · exact .inr ⟨a, rfl, fun h => p1 (.inl h), p2, p3⟩
end Go.Proofs.YtgnkfpfgolhokaaDoor
