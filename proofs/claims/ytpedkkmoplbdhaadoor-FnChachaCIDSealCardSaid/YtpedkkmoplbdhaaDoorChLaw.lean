/- Walks: the law about a sealed record with a connection ID. -/
import Derived.Test.YtpedkkmoplbdhaaDoorChU
import Derived.Test.YtpedkkmoplbdhaaDoorChJ
import Derived.Test.YtpedkkmoplbdhaaDoorTop
import Derived.Test.YtpedkkmoplbdhaaDoorRow
namespace Go.Proofs.YtpedkkmoplbdhaaDoor
open Go.RowKit Go.Cv
set_option maxRecDepth 100000
set_option linter.unusedVariables false
theorem ch_out1 (key iv plain : List UInt8) (cs0 : Array Value) (h1 : decide ((2147483647 : Int) < key.length) = true) (w : World) :
    Calls Tryd.prog 3 #[.string (S key), .string (S iv), .agg cs0, .string (S plain)] w fun e w' => e = .returned (.bool true) ∧ Below w.heap.size w w' := by
  have z1 : (S key).size = key.length := S_size key
  go_enter Tryd.func3, Tryd.ntmps3
  go_wp2_with fail
  go_ret
  exact ⟨rfl, below_alloc _ _⟩
theorem ch_out2 (key iv plain : List UInt8) (cs0 : Array Value) (h1 : decide ((2147483647 : Int) < key.length) = false) (t2 : decide ((2147483647 : Int) < iv.length) = true) (w : World) :
    Calls Tryd.prog 3 #[.string (S key), .string (S iv), .agg cs0, .string (S plain)] w fun e w' => e = .returned (.bool true) ∧ Below w.heap.size w w' := by
  have z1 : (S key).size = key.length := S_size key
  obtain ⟨ni, hni⟩ : ∃ n, iv.length = n := ⟨_, rfl⟩
  rw [hni] at t2
  have z2 : (S iv).size = ni := by rw [S_size, hni]
  have z3 : (S plain).size = plain.length := S_size plain
  clear hni
  go_enter Tryd.func3, Tryd.ntmps3
  go_wp2_with fail
  go_ret
  exact ⟨rfl, below_alloc _ _⟩
theorem ch_out3 (key iv plain : List UInt8) (cs0 : Array Value) (hi : (Tryd.prog.info? 25).map (·.size) = some cs0.size) (h1 : decide ((2147483647 : Int) < key.length) = false) (t2 : decide ((2147483647 : Int) < iv.length) = false) (HFT : Hid (∀ W, Calls Tryd.prog 7 #[.agg cs0] W fun e w' => e = .returned (.bool false) ∧ Below W.heap.size W w')) (w : World) :
    Calls Tryd.prog 3 #[.string (S key), .string (S iv), .agg cs0, .string (S plain)] w fun e w' => e = .returned (.bool true) ∧ Below w.heap.size w w' := by
  have z1 : (S key).size = key.length := S_size key
  obtain ⟨ni, hni⟩ : ∃ n, iv.length = n := ⟨_, rfl⟩
  rw [hni] at t2
  have z2 : (S iv).size = ni := by rw [S_size, hni]
  have z3 : (S plain).size = plain.length := S_size plain
  clear hni
  go_enter Tryd.func3, Tryd.ntmps3
  have hg := Blk.new w 25 cs0
  have hb0 := below_alloc w (.cells cs0 25)
  go_wp2_with (with_reducible refine Held.loadg 25 ?_)
  refine held_loadg_row hg Tryd.underlying25 hi (by rfl) rfl ?_
  generalize (World.alloc w _) = w0 at *
  have HG0 := Lib.hid hg
  have HB0 := Lib.hid hb0
  clear hg hb0
  go_wp2_with fail
  refine (HFT.out w0).mono ?_
  rintro e w1 ⟨rfl, hb1⟩
  have HB1 := Lib.hid (below_two HB0.out hb1)
  have HG1 := Lib.hid (HG0.out.keep hb1)
  clear hb1
  go_wp2_with fail
  go_ret
  exact ⟨rfl, HB1.out⟩
theorem ch_out4 (key iv plain : List UInt8) (cs0 : Array Value) (hi : (Tryd.prog.info? 25).map (·.size) = some cs0.size) (h1 : decide ((2147483647 : Int) < key.length) = false) (t2 : decide ((2147483647 : Int) < iv.length) = false) (h3 : decide ((2147483647 : Int) < plain.length) = true) (HFT : Hid (∀ W, Calls Tryd.prog 7 #[.agg cs0] W fun e w' => e = .returned (.bool true) ∧ Below W.heap.size W w')) (w : World) :
    Calls Tryd.prog 3 #[.string (S key), .string (S iv), .agg cs0, .string (S plain)] w fun e w' => e = .returned (.bool true) ∧ Below w.heap.size w w' := by
  have z1 : (S key).size = key.length := S_size key
  obtain ⟨ni, hni⟩ : ∃ n, iv.length = n := ⟨_, rfl⟩
  rw [hni] at t2
  have z2 : (S iv).size = ni := by rw [S_size, hni]
  have z3 : (S plain).size = plain.length := S_size plain
  clear hni
  go_enter Tryd.func3, Tryd.ntmps3
  have hg := Blk.new w 25 cs0
  have hb0 := below_alloc w (.cells cs0 25)
  go_wp2_with (with_reducible refine Held.loadg 25 ?_)
  refine held_loadg_row hg Tryd.underlying25 hi (by rfl) rfl ?_
  generalize (World.alloc w _) = w0 at *
  have HG0 := Lib.hid hg
  have HB0 := Lib.hid hb0
  clear hg hb0
  go_wp2_with fail
  refine (HFT.out w0).mono ?_
  rintro e w1 ⟨rfl, hb1⟩
  have HB1 := Lib.hid (below_two HB0.out hb1)
  have HG1 := Lib.hid (HG0.out.keep hb1)
  clear hb1
  go_wp2_with fail
  go_ret
  exact ⟨rfl, HB1.out⟩
theorem ch_bad1 (key iv plain : List UInt8) (cs0 cs1 : Array Value) (hi : (Tryd.prog.info? 25).map (·.size) = some cs0.size) (hs : cs1.size = cs0.size) (ho : cs1.all (·.oneCell') = true) (h1 : decide ((2147483647 : Int) < key.length) = false) (t2 : decide ((2147483647 : Int) < iv.length) = false) (h3 : decide ((2147483647 : Int) < plain.length) = false) (HFT : Hid (∀ W, Calls Tryd.prog 7 #[.agg cs0] W fun e w' => e = .returned (.bool true) ∧ Below W.heap.size W w')) (HN : Hid (∀ W, Calls Tryd.prog 8 #[.agg cs0] W fun e w' => e = .returned (.tuple #[.agg cs1, .bool false]) ∧ Below W.heap.size W w')) (w : World) :
    Calls Tryd.prog 3 #[.string (S key), .string (S iv), .agg cs0, .string (S plain)] w fun e w' => e = .returned (.bool true) ∧ Below w.heap.size w w' := by
  have z1 : (S key).size = key.length := S_size key
  obtain ⟨ni, hni⟩ : ∃ n, iv.length = n := ⟨_, rfl⟩
  rw [hni] at t2
  have z2 : (S iv).size = ni := by rw [S_size, hni]
  have z3 : (S plain).size = plain.length := S_size plain
  clear hni
  go_enter Tryd.func3, Tryd.ntmps3
  have hg := Blk.new w 25 cs0
  have hb0 := below_alloc w (.cells cs0 25)
  go_wp2_with (with_reducible refine Held.loadg 25 ?_)
  refine held_loadg_row hg Tryd.underlying25 hi (by rfl) rfl ?_
  generalize (World.alloc w _) = w0 at *
  have HG0 := Lib.hid hg
  have HB0 := Lib.hid hb0
  clear hg hb0
  go_wp2_with fail
  refine (HFT.out w0).mono ?_
  rintro e w1 ⟨rfl, hb1⟩
  have HB1 := Lib.hid (below_two HB0.out hb1)
  have HG1 := Lib.hid (HG0.out.keep hb1)
  clear hb1
  go_wp2_with (with_reducible refine Held.load 25 ?_)
  refine held_load_row HG1.out Tryd.underlying25 hi rfl ?_
  go_wp2_with fail
  refine (HN.out w1).mono ?_
  rintro e w2 ⟨rfl, hb2⟩
  have HB2 := Lib.hid (below_two HB1.out hb2)
  have HG2 := Lib.hid (HG1.out.keep hb2)
  clear hb2
  go_wp2_with (with_reducible refine Held.store 25 ?_)
  refine held_store_row (cells := cs1) HG2.out (by rw [hs]; exact hi) rfl rfl hs.symm ho fun w3 hk3 hg3 hsz3 => ?_
  have HG3 := Lib.hid hk3
  have HB3 := Lib.hid (below_of_grown HB2.out hg3 (by have := HG2.out.lt; omega) (Nat.le_refl _))
  clear hk3 hg3 hsz3
  go_wp2_with fail
  go_ret
  exact ⟨rfl, HB3.out⟩
theorem ch_bad2 (key iv plain : List UInt8) (cs0 cs1 : Array Value) (hi : (Tryd.prog.info? 25).map (·.size) = some cs0.size) (hs : cs1.size = cs0.size) (ho : cs1.all (·.oneCell') = true) (h1 : decide ((2147483647 : Int) < key.length) = false) (t2 : decide ((2147483647 : Int) < iv.length) = false) (h3 : decide ((2147483647 : Int) < plain.length) = false) (t4 : ((iv.length : Int) == 12) = false) (t4' : ¬ iv.length = 12) (HFT : Hid (∀ W, Calls Tryd.prog 7 #[.agg cs0] W fun e w' => e = .returned (.bool true) ∧ Below W.heap.size W w')) (HN : Hid (∀ W, Calls Tryd.prog 8 #[.agg cs0] W fun e w' => e = .returned (.tuple #[.agg cs1, .bool true]) ∧ Below W.heap.size W w')) (w : World) :
    Calls Tryd.prog 3 #[.string (S key), .string (S iv), .agg cs0, .string (S plain)] w fun e w' => e = .returned (.bool true) ∧ Below w.heap.size w w' := by
  have z1 : (S key).size = key.length := S_size key
  obtain ⟨ni, hni⟩ : ∃ n, iv.length = n := ⟨_, rfl⟩
  rw [hni] at t2 t4 t4'
  have z2 : (S iv).size = ni := by rw [S_size, hni]
  have z3 : (S plain).size = plain.length := S_size plain
  clear hni
  go_enter Tryd.func3, Tryd.ntmps3
  have hg := Blk.new w 25 cs0
  have hb0 := below_alloc w (.cells cs0 25)
  go_wp2_with (with_reducible refine Held.loadg 25 ?_)
  refine held_loadg_row hg Tryd.underlying25 hi (by rfl) rfl ?_
  generalize (World.alloc w _) = w0 at *
  have HG0 := Lib.hid hg
  have HB0 := Lib.hid hb0
  clear hg hb0
  go_wp2_with fail
  refine (HFT.out w0).mono ?_
  rintro e w1 ⟨rfl, hb1⟩
  have HB1 := Lib.hid (below_two HB0.out hb1)
  have HG1 := Lib.hid (HG0.out.keep hb1)
  clear hb1
  go_wp2_with (with_reducible refine Held.load 25 ?_)
  refine held_load_row HG1.out Tryd.underlying25 hi rfl ?_
  go_wp2_with fail
  refine (HN.out w1).mono ?_
  rintro e w2 ⟨rfl, hb2⟩
  have HB2 := Lib.hid (below_two HB1.out hb2)
  have HG2 := Lib.hid (HG1.out.keep hb2)
  clear hb2
  go_wp2_with (with_reducible refine Held.store 25 ?_)
  refine held_store_row (cells := cs1) HG2.out (by rw [hs]; exact hi) rfl rfl hs.symm ho fun w3 hk3 hg3 hsz3 => ?_
  have HG3 := Lib.hid hk3
  have HB3 := Lib.hid (below_of_grown HB2.out hg3 (by have := HG2.out.lt; omega) (Nat.le_refl _))
  clear hk3 hg3 hsz3
  go_wp2_with fail
  go_ret
  exact ⟨rfl, HB3.out⟩
theorem ch_bad3 (key iv plain : List UInt8) (cs0 cs1 : Array Value) (hi : (Tryd.prog.info? 25).map (·.size) = some cs0.size) (hs : cs1.size = cs0.size) (ho : cs1.all (·.oneCell') = true) (h1 : decide ((2147483647 : Int) < key.length) = false) (t2 : decide ((2147483647 : Int) < iv.length) = false) (h3 : decide ((2147483647 : Int) < plain.length) = false) (t4 : iv.length = 12) (HFT : Hid (∀ W, Calls Tryd.prog 7 #[.agg cs0] W fun e w' => e = .returned (.bool true) ∧ Below W.heap.size W w')) (HN : Hid (∀ W, Calls Tryd.prog 8 #[.agg cs0] W fun e w' => e = .returned (.tuple #[.agg cs1, .bool true]) ∧ Below W.heap.size W w')) (HF : Hid (∀ (w : World) (r : Nat), w.cell? ⟨r, 0, none⟩ = some (.string (S key)) → w.cell? ⟨r, 1, none⟩ = some (.string (S plain)) → Calls Tryd.prog 9 #[.slice (some ⟨r, 0, none⟩) 2 2] w fun e w' => e = .returned (.bool false) ∧ w = w')) (w : World) :
    Calls Tryd.prog 3 #[.string (S key), .string (S iv), .agg cs0, .string (S plain)] w fun e w' => e = .returned (.bool true) ∧ Below w.heap.size w w' := by
  have z1 : (S key).size = key.length := S_size key
  obtain ⟨ni, hni⟩ : ∃ n, iv.length = n := ⟨_, rfl⟩
  rw [hni] at t2 t4
  have z2 : (S iv).size = ni := by rw [S_size, hni]
  have z3 : (S plain).size = plain.length := S_size plain
  clear hni
  subst t4
  go_enter Tryd.func3, Tryd.ntmps3
  have hg := Blk.new w 25 cs0
  have hb0 := below_alloc w (.cells cs0 25)
  go_wp2_with (with_reducible refine Held.loadg 25 ?_)
  refine held_loadg_row hg Tryd.underlying25 hi (by rfl) rfl ?_
  generalize (World.alloc w _) = w0 at *
  have HG0 := Lib.hid hg
  have HB0 := Lib.hid hb0
  clear hg hb0
  go_wp2_with fail
  refine (HFT.out w0).mono ?_
  rintro e w1 ⟨rfl, hb1⟩
  have HB1 := Lib.hid (below_two HB0.out hb1)
  have HG1 := Lib.hid (HG0.out.keep hb1)
  clear hb1
  go_wp2_with (with_reducible refine Held.load 25 ?_)
  refine held_load_row HG1.out Tryd.underlying25 hi rfl ?_
  go_wp2_with fail
  refine (HN.out w1).mono ?_
  rintro e w2 ⟨rfl, hb2⟩
  have HB2 := Lib.hid (below_two HB1.out hb2)
  have HG2 := Lib.hid (HG1.out.keep hb2)
  clear hb2
  go_wp2_with (with_reducible refine Held.store 25 ?_)
  refine held_store_row (cells := cs1) HG2.out (by rw [hs]; exact hi) rfl rfl hs.symm ho fun w3 hk3 hg3 hsz3 => ?_
  have HG3 := Lib.hid hk3
  have HB3 := Lib.hid (below_of_grown HB2.out hg3 (by have := HG2.out.lt; omega) (Nat.le_refl _))
  clear hk3 hg3 hsz3
  go_wp2_with fail
  refine (HF.out _ w3.heap.size (by simp) (by simp)).mono ?_
  rintro e w4 ⟨rfl, rfl⟩
  go_wp2_with fail
  go_ret
  exact ⟨rfl, HB3.out.alloc HB3.out.size _⟩
set_option maxHeartbeats 2000000 in
theorem ch_in (key iv plain : List UInt8) (cs0 cs1 : Array Value) (sl : List UInt8) (hi : (Tryd.prog.info? 25).map (·.size) = some cs0.size) (hs : cs1.size = cs0.size) (ho : cs1.all (·.oneCell') = true) (h1 : decide ((2147483647 : Int) < key.length) = false) (t2 : decide ((2147483647 : Int) < iv.length) = false) (h3 : decide ((2147483647 : Int) < plain.length) = false) (t4 : iv.length = 12) (HFT : Hid (∀ W, Calls Tryd.prog 7 #[.agg cs0] W fun e w' => e = .returned (.bool true) ∧ Below W.heap.size W w')) (HN : Hid (∀ W, Calls Tryd.prog 8 #[.agg cs0] W fun e w' => e = .returned (.tuple #[.agg cs1, .bool true]) ∧ Below W.heap.size W w')) (HF : Hid (∀ (w : World) (r : Nat), w.cell? ⟨r, 0, none⟩ = some (.string (S key)) → w.cell? ⟨r, 1, none⟩ = some (.string (S plain)) → Calls Tryd.prog 9 #[.slice (some ⟨r, 0, none⟩) 2 2] w fun e w' => e = .returned (.bool true) ∧ w = w')) (HIM : Hid (∀ W, Calls Tryd.prog 10 #[.string (S key), .string (S iv), .agg cs1, .string (S plain)] W fun e w' => e = .returned (.tuple #[.string (S sl), .bool true]) ∧ Below W.heap.size W w')) (HSP : Hid (∀ W, Calls Tryd.prog 11 #[.string (S key), .string (S iv), .agg cs1, .string (S plain)] W fun e w' => e = .returned (.string (S sl)) ∧ Below W.heap.size W w')) (w : World) :
    Calls Tryd.prog 3 #[.string (S key), .string (S iv), .agg cs0, .string (S plain)] w fun e w' => e = .returned (.bool true) ∧ Below w.heap.size w w' := by
  have z1 : (S key).size = key.length := S_size key
  obtain ⟨ni, hni⟩ : ∃ n, iv.length = n := ⟨_, rfl⟩
  rw [hni] at t2 t4
  have z2 : (S iv).size = ni := by rw [S_size, hni]
  have z3 : (S plain).size = plain.length := S_size plain
  clear hni
  subst t4
  go_enter Tryd.func3, Tryd.ntmps3
  have hg := Blk.new w 25 cs0
  have hb0 := below_alloc w (.cells cs0 25)
  go_wp2_with (with_reducible refine Held.loadg 25 ?_)
  refine held_loadg_row hg Tryd.underlying25 hi (by rfl) rfl ?_
  generalize (World.alloc w _) = w0 at *
  have HG0 := Lib.hid hg
  have HB0 := Lib.hid hb0
  clear hg hb0
  go_wp2_with fail
  refine (HFT.out w0).mono ?_
  rintro e w1 ⟨rfl, hb1⟩
  have HB1 := Lib.hid (below_two HB0.out hb1)
  have HG1 := Lib.hid (HG0.out.keep hb1)
  clear hb1
  go_wp2_with (with_reducible refine Held.load 25 ?_)
  refine held_load_row HG1.out Tryd.underlying25 hi rfl ?_
  go_wp2_with fail
  refine (HN.out w1).mono ?_
  rintro e w2 ⟨rfl, hb2⟩
  have HB2 := Lib.hid (below_two HB1.out hb2)
  have HG2 := Lib.hid (HG1.out.keep hb2)
  clear hb2
  go_wp2_with (with_reducible refine Held.store 25 ?_)
  refine held_store_row (cells := cs1) HG2.out (by rw [hs]; exact hi) rfl rfl hs.symm ho fun w3 hk3 hg3 hsz3 => ?_
  have HG3 := Lib.hid hk3
  have HB3 := Lib.hid (below_of_grown HB2.out hg3 (by have := HG2.out.lt; omega) (Nat.le_refl _))
  clear hk3 hg3 hsz3
  go_wp2_with fail
  refine (HF.out _ w3.heap.size (by simp) (by simp)).mono ?_
  rintro e w4 ⟨rfl, rfl⟩
  have hb4 := below_alloc w3 (.cells #[.string (S key), .string (S plain)] 9)
  have HB4 := Lib.hid (below_two HB3.out hb4)
  have HG4 := Lib.hid (HG3.out.keep hb4)
  clear hb4
  generalize (World.alloc w3 _) = w4 at *
  go_wp2_with (with_reducible refine Held.load 25 ?_)
  refine held_load_row HG4.out Tryd.underlying25 (by rw [hs]; exact hi) rfl ?_
  go_wp2_with fail
  refine (HIM.out w4).mono ?_
  rintro e w5 ⟨rfl, hb5⟩
  have HB5 := Lib.hid (below_two HB4.out hb5)
  have HG5 := Lib.hid (HG4.out.keep hb5)
  clear hb5
  go_wp2_with (with_reducible refine Held.loadg 25 ?_)
  refine held_loadg_row HG5.out Tryd.underlying25 (by rw [hs]; exact hi) (by rfl) rfl ?_
  go_wp2_with fail
  refine (HSP.out w5).mono ?_
  rintro e w6 ⟨rfl, hb6⟩
  have HB6 := Lib.hid (below_two HB5.out hb6)
  clear hb6
  go_wp2_with fail
  go_ret
  exact ⟨by simp, HB6.out⟩
set_option maxHeartbeats 1000000 in
theorem ch_law (ct maj mn ep sq cl : Nat) (key iv cid plain : List UInt8) (hep : ep < 65536) (w : World) :
    Calls Tryd.prog 3 #[.string (S key), .string (S iv), .agg (recRow ct maj mn ep sq cl cid), .string (S plain)] w fun e w' => e = .returned (.bool true) ∧ Below w.heap.size w w' := by
  have hi : (Tryd.prog.info? 25).map (·.size) = some (recRow ct maj mn ep sq cl cid).size := recInfo
  cases h1 : decide ((2147483647 : Int) < key.length) with
  | true => exact ch_out1 key iv plain _ h1 w
  | false =>
  cases h2 : decide ((2147483647 : Int) < iv.length) with
  | true => exact ch_out2 key iv plain _ h1 h2 w
  | false =>
  cases hc : decide ((2147483647 : Int) < cid.length) with
  | true => exact ch_out3 key iv plain _ hi h1 h2 (Lib.hid (fun W => nofits_any ct maj mn ep sq cl cid W hc)) w
  | false =>
  have HFT := Lib.hid (fun W => fits_any ct maj mn ep sq cl cid W hc)
  cases h3 : decide ((2147483647 : Int) < plain.length) with
  | true => exact ch_out4 key iv plain _ hi h1 h2 h3 HFT w
  | false =>
  have HN := fun ok hok => Lib.hid (fun W => named12_any ct maj mn ep sq cl cid.length cid rfl ok hok W)
  by_cases hok : 0 < cid.length ∧ cid.length < 256 ∧ sq ≤ 281474976710655
  · have HN1 := HN true (decide_eq_true hok).symm
    by_cases h12 : iv.length = 12
    · have HF : ∀ (w : World) (r : Nat), w.cell? ⟨r, 0, none⟩ = some (.string (S key)) → w.cell? ⟨r, 1, none⟩ = some (.string (S plain)) → Calls Tryd.prog 9 #[.slice (some ⟨r, 0, none⟩) 2 2] w fun e w' => e = .returned (.bool ([key, plain].all fun l => decide (l.length ≤ 2000))) ∧ w = w' := fun w r c0 c1 => few_any r 2 [key, plain] rfl (by omega) w (fun i hi => by
        rcases (by omega : i = 0 ∨ i = 1) with rfl | rfl
        · exact c0
        · exact c1)
      cases hf : [key, plain].all fun l => decide (l.length ≤ 2000) with
      | false => rw [hf] at HF; exact ch_bad3 key iv plain _ (recRow 25 254 253 ep sq 0 cid) hi rfl (by simp [recRow, Value.oneCell']) h1 h2 h3 h12 HFT HN1 (Lib.hid HF) w
      | true =>
        rw [hf] at HF
        have hs : key.length ≤ 2000 ∧ plain.length ≤ 2000 := by simpa using hf
        exact ch_in key iv plain _ (recRow 25 254 253 ep sq 0 cid) (aSeal key (chNonce iv ep sq) plain (acid 254 253 ep sq cid plain.length) 16) hi rfl (by simp [recRow, Value.oneCell']) h1 h2 h3 h12 HFT HN1 (Lib.hid HF) (Lib.hid (fun W => implCh key iv cid plain ep sq 0 cid.length plain.length hs.1 h12 rfl (by omega) rfl hs.2 hep (by omega) W)) (Lib.hid (fun W => specCh key iv cid plain ep sq 0 cid.length plain.length hs.1 h12 rfl (by omega) rfl hs.2 hep W)) w
    · exact ch_bad2 key iv plain _ (recRow 25 254 253 ep sq 0 cid) hi rfl (by simp [recRow, Value.oneCell']) h1 h2 h3 (by simp; omega) h12 HFT HN1 w
  · exact ch_bad1 key iv plain _ (recRow 25 254 253 ep sq 0 cid) hi rfl (by simp [recRow, Value.oneCell']) h1 h2 h3 HFT (HN false (decide_eq_false hok).symm) w
theorem ch_row (l0 l1 : List UInt8) (cs : Array Value) (hk : cs.size = 7) (x0 : Int) (e0 : cs[0]? = some (.int .u8 x0)) (w0 : (Lit.int .u8 x0).wf = true) (x1 : Int) (e1 : cs[1]? = some (.int .u8 x1)) (w1 : (Lit.int .u8 x1).wf = true) (x2 : Int) (e2 : cs[2]? = some (.int .u8 x2)) (w2 : (Lit.int .u8 x2).wf = true) (x3 : Int) (e3 : cs[3]? = some (.int .u16 x3)) (w3 : (Lit.int .u16 x3).wf = true)
    (x4 : Int) (e4 : cs[4]? = some (.int .u64 x4)) (w4 : (Lit.int .u64 x4).wf = true) (x5 : Int) (e5 : cs[5]? = some (.int .u16 x5)) (w5 : (Lit.int .u16 x5).wf = true) (l6 : List UInt8) (e6 : cs[6]? = some (.string (S l6))) (l3 : List UInt8) (w : World) {p0 : Prop} (ad0 : Addr) (g0 : p0) :
    Calls Tryd.prog 3 #[.string (S l0), .string (S l1), .agg cs, .string (S l3)] w fun e w' => e = .returned (.bool true) ∧ Below w.heap.size w w' := by
  obtain ⟨ct, rfl, _⟩ := nat_u8 w0
  obtain ⟨maj, rfl, hmaj⟩ := nat_u8 w1
  obtain ⟨mn, rfl, hmn⟩ := nat_u8 w2
  obtain ⟨ep, rfl, hep⟩ := nat_u16 w3
  obtain ⟨sq, rfl, _⟩ := nat_u64 w4
  obtain ⟨cl, rfl, _⟩ := nat_u16 w5
  have hcs : cs = recRow ct maj mn ep sq cl l6 := by
    apply Array.ext_getElem?
    intro i
    match i with
    | 0 => exact e0
    | 1 => exact e1
    | 2 => exact e2
    | 3 => exact e3
    | 4 => exact e4
    | 5 => exact e5
    | 6 => exact e6
    | i + 7 =>
      rw [Array.getElem?_eq_none (by omega), Array.getElem?_eq_none (by simp [recRow])]
  rw [hcs]
  exact ch_law ct maj mn ep sq cl l0 l1 l6 l3 (by omega) w
end Go.Proofs.YtpedkkmoplbdhaaDoor
