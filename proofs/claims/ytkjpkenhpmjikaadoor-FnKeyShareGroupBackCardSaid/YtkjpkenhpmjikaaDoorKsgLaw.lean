/- Walks: the law of a selected group. -/
import Derived.Test.YtkjpkenhpmjikaaDoorKsg
import Derived.Test.YtkjpkenhpmjikaaDoorSameG
namespace Go.Proofs.YtkjpkenhpmjikaaDoor
open Go.RowKit Go.Cv
set_option maxRecDepth 100000
set_option linter.unusedVariables false
def kgMsg (A : Option Addr) (n c : Nat) : Array Value := #[.int .u16 51, .string (S []), .slice none 0 0, .slice none 0 0, .slice none 0 0, .bool false, .int .u32 0, .bool false, .slice none 0 0, .slice none 0 0, .slice A n c, .slice none 0 0, .slice none 0 0]
set_option maxHeartbeats 1000000 in
theorem dataKs_any (g a G : Nat) (w : World) (hk : Blk w g 133 #[.slice none 0 0, .pointer none, .pointer (some ⟨a, 0, none⟩)]) (hc : Blk w a 161 #[.int .u16 G]) :
    Calls Tryd.prog 70 #[.pointer (some ⟨g, 0, none⟩)] w fun e w' => ∃ r, e = .returned (.agg (kgMsg (some ⟨r, 0, none⟩) 1 1)) ∧ w'.cell? ⟨r, 0, none⟩ = some (.int .u16 G) ∧ w.heap.size ≤ r ∧ Below w.heap.size w w' := by
  have hgs := hk.lt
  have has := hc.lt
  go_enter Tryd.func70, Tryd.ntmps70
  go_wp2_with (with_reducible refine Held.store 35 ?_)
  refine held_store_at (g := w.heap.size + 1) (by simp) (cells := kgMsg none 0 0) extInfo rfl rfl rfl (by simp [kgMsg, Value.oneCell']) fun w1 hm hb' hsz => ?_
  have hb := below_two (below_alloc w _) hb'
  have hM := (Blk.new w 35 _).keep hb'
  have q0 := (hk.keep hb).cell 0
  have q1 := (hk.keep hb).cell 1
  have q2 := (hk.keep hb).cell 2
  have qa := (hc.keep hb).cell 0
  have m10 := hm.cell 10
  have f10 := hm.frozen 10
  have ls := hm.lt
  simp [kgMsg] at q0 q1 q2 qa m10
  have HM := Lib.hid hm
  have HM0 := Lib.hid hM
  have HB := Lib.hid hb
  have LL : w.heap.size + 1 < w1.heap.size := ls
  clear hk hm hM hc hb hb' hsz ls
  go_wp2_with fail
  refine wp_loop_rounds 1 ?_
  rw [rounds_succ]
  go_wp2_with (with_reducible refine Held.load 35 ?_)
  have TS := Tch.set w1 (w.heap.size + 1) 10 (.slice (some ⟨w1.heap.size, 0, none⟩) 1 1)
  have hK := HM.out.set_ 10 (.slice (some ⟨w1.heap.size, 0, none⟩) 1 1)
  have hM4 := HM0.out.tch TS (by simp)
  have hB4 := HB.out.setCell (p := ⟨w.heap.size + 1, 10, none⟩) (by simp) (.slice (some ⟨w1.heap.size, 0, none⟩) 1 1)
  have hN4 := Blk.new (w1.setCell ⟨w.heap.size + 1, 10, none⟩ (.slice (some ⟨w1.heap.size, 0, none⟩) 1 1)) 24 #[.int .u16 (G : Int)]
  have hsz4 : (w1.setCell ⟨w.heap.size + 1, 10, none⟩ (.slice (some ⟨w1.heap.size, 0, none⟩) 1 1)).heap.size = w1.heap.size := by simp
  rw [hsz4] at hN4
  refine held_load_row (cs := kgMsg (some ⟨w1.heap.size, 0, none⟩) 1 1) (by simpa [kgMsg] using hK.alloc _) Tryd.underlying35 extInfo rfl ?_
  have HM4 := Lib.hid (hM4.alloc (.cells #[.int .u16 (G : Int)] 24))
  have HN4 := Lib.hid hN4
  have HB4 := Lib.hid (hB4.trans ((below_alloc _ (.cells #[.int .u16 (G : Int)] 24)).mono (by simp; omega)))
  clear TS hK hM4 hB4 hN4
  go_wp2_with (with_reducible refine Held.store 35 ?_)
  refine held_store_row (cells := kgMsg (some ⟨w1.heap.size, 0, none⟩) 1 1) HM4.out extInfo rfl rfl rfl (by simp [kgMsg, Value.oneCell']) fun w3 hk3 hg3 _ => ?_
  go_wp2_with fail
  refine bodyPost_cell rfl rfl rfl hk3 Tryd.underlying35 extInfo ⟨_, rfl, ?_, by omega, HB4.out.grown hg3 HB4.out.size (fun k hk' => by simp at hk'; omega)⟩
  simpa using (HN4.out.grown hg3 (by simp; omega)).cell 0
theorem ksgRead_ok (l : List UInt8) (p q : UInt8) (G : Nat) (hl : l = 0 :: 51 :: 0 :: 2 :: p :: q :: []) (hpq : p.toNat * 256 + q.toNat = G) (hG : G = 23 ∨ G = 24 ∨ G = 29) (w : World) :
    Calls Tryd.prog 30 #[.string (S l)] w fun e w' => ∃ r, e = .returned (.tuple #[.agg (kgMsg (some ⟨r, 0, none⟩) 1 1), .bool true]) ∧ w'.cell? ⟨r, 0, none⟩ = some (.int .u16 G) ∧ Below w.heap.size w w' := by
  have HC := Lib.hid (fun g b c w hk hr hlc hbs hgb => ksg_ok g b c l p q G hl hpq hG w hk hr hlc hbs hgb)
  have HLM : Hid (l.length ≤ maxLen) := Lib.hid (by rw [hl]; simp [maxLen])
  clear hl hpq hG
  go_enter Tryd.func30, Tryd.ntmps30
  go_wp2_with fail
  refine upon_conv_sb 9 54 5 Tryd.underlying9 Tryd.underlying54 Tryd.underlying5 l HLM.out ?_
  intro c w1 hown hb hlt
  have hk := ((Blk.new _ 133 #[.slice none 0 0, .pointer none, .pointer none])).keep hb
  have hM := ((Blk.new w 35 _).alloc _).keep hb
  have hr := hown.rd
  have hb1 : Below w.heap.size w w1 := below_two (by (repeat (first | assumption | exact Below.refl _ _ | refine Below.drew ?_ | refine Below.setCell ?_ (by first | omega | (simp; done) | (simp; omega)) _ | refine Below.alloc ?_ (by first | omega | (simp; done) | (simp; omega)) _))) hb
  have hlc := hown.2.1
  simp only [World.size_alloc] at hk hM hr hlt
  clear hown hb
  go_wp2_with fail
  refine (HC.out (w.heap.size + 1) _ c w1 hk hr hlc hlt (by omega)).mono ?_
  rintro e w2 ⟨rfl, a, hkx, hcx, hg2⟩
  have hM2 := hM.grown hg2 (by simp)
  have hb2 := hb1.grown hg2 hb1.size (fun k hk => by simp at hk; omega)
  clear hk hr hM hb1 hg2 HC
  go_wp2_with fail
  refine (dataKs_any (w.heap.size + 1) a _ w2 hkx hcx).mono ?_
  rintro e w3 ⟨r, rfl, hcr, hrr, hb3⟩
  have hM3 := hM2.keep hb3
  have hb4 := below_two hb2 hb3
  have hrl := block_lt hcr
  clear hkx hb3 hcx
  go_wp2_with (with_reducible refine Held.store 35 ?_)
  refine held_store_row (cells := kgMsg (some ⟨r, 0, none⟩) 1 1) hM3 extInfo rfl rfl rfl (by simp [kgMsg, Value.oneCell']) fun w5 hk5 hg5 _ => ?_
  have HCR : Hid (w5.cell? ⟨r, 0, none⟩ = some (.int .u16 G)) := by
    have hne : r ≠ w.heap.size := by have := hb2.size; have := hM2.lt; omega
    exact (World.cell?_of_block (hg5.block _ hrl (by simp; exact hne))).trans hcr
  go_wp2_with fail
  exact bodyPost_cell2 rfl rfl rfl hk5 Tryd.underlying35 extInfo ⟨_, rfl, HCR.out, hb4.grown hg5 hb4.size (fun k hk' => by simp at hk'; omega)⟩
theorem ksglaw_no (x : Nat) (hx : ([23, 24, 29] : List Nat).contains x = false) (w : World) :
    Calls Tryd.prog 11 #[.int .u16 x] w fun e w' => e = .returned (.bool true) ∧ Below w.heap.size w w' := by
  have hrow : Rd (w.alloc (.cells #[.int .u16 23, .int .u16 24, .int .u16 29] 24)) (some ⟨w.heap.size, 0, none⟩) (zv [23, 24, 29]) := rd_new w _ _
  have HA := Lib.hid (among_any w.heap.size 0 3 3 x [23, 24, 29] rfl (by omega) _ hrow)
  clear hrow
  go_enter Tryd.func11, Tryd.ntmps11
  go_wp2_with fail
  refine HA.out.mono ?_
  rintro e w1 ⟨rfl, rfl⟩
  rw [hx]
  go_wp2_with fail
  go_ret
  exact ⟨rfl, below_alloc _ _⟩
set_option maxHeartbeats 1000000 in
theorem ksglaw_yes (x : Nat) (hx : ([23, 24, 29] : List Nat).contains x = true) (hG : x = 23 ∨ x = 24 ∨ x = 29) (w : World) :
    Calls Tryd.prog 11 #[.int .u16 x] w fun e w' => e = .returned (.bool true) ∧ Below w.heap.size w w' := by
  have hx16 : x < 65536 := by rcases hG with h | h | h <;> omega
  have hrow : Rd (w.alloc (.cells #[.int .u16 23, .int .u16 24, .int .u16 29] 24)) (some ⟨w.heap.size, 0, none⟩) (zv [23, 24, 29]) := rd_new w _ _
  have HA := Lib.hid (among_any w.heap.size 0 3 3 x [23, 24, 29] rfl (by omega) _ hrow)
  obtain ⟨p, q, e2, hpq⟩ := be2_parts x hx16
  obtain ⟨m, hm⟩ : ∃ m, m = be 2 51 ++ (be 2 (be 2 x).length ++ be 2 x) := ⟨_, rfl⟩
  have hm' : m = 0 :: 51 :: 0 :: 2 :: p :: q :: [] := by rw [hm, e2]; simp [be]
  have HG := Lib.hid (fun w => big_any 2 (by omega) x w)
  have HF := Lib.hid (fun w => framedExt_any 51 (by omega) (be 2 x) (by rw [be_length]; omega) w)
  rw [← hm] at HF
  have HO := Lib.hid (fun w => ksgRead_ok m p q x hm' hpq hG w)
  have i1 : (0 : Int) ≤ x := by omega
  have i2 : (x : Int) ≤ 100 := by rcases hG with rfl | rfl | rfl <;> omega
  clear hrow hm hm' e2 hpq hG hx16
  go_enter Tryd.func11, Tryd.ntmps11
  go_wp2_with fail
  refine HA.out.mono ?_
  rintro e w1 ⟨rfl, rfl⟩
  rw [hx]
  have hb0 : Below w.heap.size w (w.alloc (.cells #[.int .u16 23, .int .u16 24, .int .u16 29] 24)) := below_alloc _ _
  go_wp2_with fail
  refine (HG.out _).mono ?_
  rintro e w1 ⟨rfl, hb1⟩
  have hb1' := below_two hb0 hb1
  go_wp2_with fail
  refine (HF.out w1).mono ?_
  rintro e w2 ⟨rfl, hb2⟩
  have hb2' := below_two hb1' hb2
  go_wp2_with fail
  refine (HO.out w2).mono ?_
  rintro e w3 ⟨r, rfl, hcr, hb3⟩
  have hb4 := below_two hb2' hb3
  clear HO HG HF HA hb0 hb1 hb1' hb2 hb2' hb3
  go_wp2_with (with_reducible refine Held.store 35 ?_)
  refine held_store_new (cells := kgMsg (some ⟨r, 0, none⟩) 1 1) extInfo rfl rfl rfl (by simp [kgMsg, Value.oneCell']) fun w5 hk hb5 hsz5 => ?_
  clear hsz5
  have hcr5 := keep_of_below hb5 _ _ hcr
  have hb6 := below_two hb4 hb5
  clear hcr hb4 hb5
  go_wp2_with (with_reducible refine Held.loadg 35 ?_)
  refine held_loadg_row hk Tryd.underlying35 extInfo rfl rfl ?_
  have hba := below_alloc w5 (.cells #[.int .u16 (x : Int)] 24)
  have hcr6 := keep_of_below hba _ _ hcr5
  have hn6 : (w5.alloc (.cells #[.int .u16 (x : Int)] 24)).cell? ⟨w5.heap.size, 0, none⟩ = some (.int .u16 x) := (Blk.new w5 24 #[.int .u16 (x : Int)]).cell 0
  have HSM := Lib.hid (sameExtG (w5.alloc (.cells #[.int .u16 (x : Int)] 24)) (kgMsg (some ⟨r, 0, none⟩) 1 1) (kgMsg (some ⟨w5.heap.size, 0, none⟩) 1 1) 51 [] none none 0 0 none none 0 0 0 0 none none 0 0 0 0 false 0 false none none 0 0 none none 0 0 (some ⟨r, 0, none⟩) (some ⟨w5.heap.size, 0, none⟩) 1 1 1 1 none none 0 0 none none 0 0 rfl rfl rfl rfl rfl rfl rfl rfl (fun w' _ => (list0_u16 none none 0 0 _ w').mono (by rintro e w'' ⟨rfl, rfl⟩; exact ⟨rfl, Below.refl _ _⟩)) rfl rfl (fun w' _ => (list0_pair none none 0 0 _ w').mono (by rintro e w'' ⟨rfl, rfl⟩; exact ⟨rfl, Below.refl _ _⟩)) rfl rfl rfl rfl rfl rfl rfl rfl rfl rfl rfl rfl (fun w' h => list1_u16 r w5.heap.size 1 1 x w' (keep_of_below h _ _ hcr6) (keep_of_below h _ _ hn6)) rfl rfl rfl rfl)
  clear hcr5 hk hcr6 hn6
  go_wp2_with fail
  refine HSM.out.mono ?_
  rintro e w6 ⟨rfl, hb7⟩
  go_wp2_with fail
  go_ret
  exact ⟨rfl, below_two (below_two hb6 hba) hb7⟩
theorem ksglaw_row (x : Int) (hx : (Lit.int .u16 x).wf = true) (w : World) {p q r s : Prop} (ad0 : Addr) (g0 : p) (ad1 : Addr) (g1 : q) (ad2 : Addr) (g2 : r) (ad3 : Addr) (g3 : s) :
    Calls Tryd.prog 11 #[.int .u16 x] w fun e w' => e = .returned (.bool true) ∧ Below w.heap.size w w' := by
  obtain ⟨n, rfl, hn⟩ := nat_u16 hx
  cases h : ([23, 24, 29] : List Nat).contains n with
  | false => exact ksglaw_no n h w
  | true => exact ksglaw_yes n h (by simpa using h) w
end Go.Proofs.YtkjpkenhpmjikaaDoor
