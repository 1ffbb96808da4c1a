/- Walks: the law about a record by cipher block chaining. -/
import Derived.Test.YtpedkkmoplbdhaaDoorBimp
import Derived.Test.YtpedkkmoplbdhaaDoorBse
import Derived.Test.YtpedkkmoplbdhaaDoorAoL
import Derived.Test.YtpedkkmoplbdhaaDoorAoB
import Derived.Test.YtpedkkmoplbdhaaDoorTop
import Derived.Test.YtpedkkmoplbdhaaDoorBase
namespace Go.Proofs.YtpedkkmoplbdhaaDoor
open Go.RowKit Go.Cv
set_option maxRecDepth 100000
set_option linter.unusedVariables false
theorem cb_out1 (key mk iv pl : List UInt8) (kd mo : Int) (cs0 : Array Value) (h1 : decide ((2147483647 : Int) < key.length) = true) (w : World) :
    Calls Tryd.prog 6 #[.string (S key), .string (S mk), .string (S iv), .int .i64 kd, .agg cs0, .string (S pl), .int .i64 mo] w fun e w' => e = .returned (.bool true) ∧ Below w.heap.size w w' := by
  have z1 : (S key).size = key.length := S_size key
  go_enter Tryd.func6, Tryd.ntmps6
  go_wp2_with fail
  go_ret
  exact ⟨rfl, below_alloc _ _⟩
theorem cb_out2 (key mk iv pl : List UInt8) (kd mo : Int) (cs0 : Array Value) (h1 : decide ((2147483647 : Int) < key.length) = false) (h1m : decide ((2147483647 : Int) < mk.length) = true) (w : World) :
    Calls Tryd.prog 6 #[.string (S key), .string (S mk), .string (S iv), .int .i64 kd, .agg cs0, .string (S pl), .int .i64 mo] w fun e w' => e = .returned (.bool true) ∧ Below w.heap.size w w' := by
  have z1 : (S key).size = key.length := S_size key
  have z1' : (S mk).size = mk.length := S_size mk
  go_enter Tryd.func6, Tryd.ntmps6
  go_wp2_with fail
  go_ret
  exact ⟨rfl, below_alloc _ _⟩
theorem cb_out3 (key mk iv pl : List UInt8) (kd mo : Int) (cs0 : Array Value) (h1 : decide ((2147483647 : Int) < key.length) = false) (h1m : decide ((2147483647 : Int) < mk.length) = false) (t2 : decide ((2147483647 : Int) < iv.length) = true) (w : World) :
    Calls Tryd.prog 6 #[.string (S key), .string (S mk), .string (S iv), .int .i64 kd, .agg cs0, .string (S pl), .int .i64 mo] w fun e w' => e = .returned (.bool true) ∧ Below w.heap.size w w' := by
  have z1 : (S key).size = key.length := S_size key
  have z1' : (S mk).size = mk.length := S_size mk
  obtain ⟨ni, hni⟩ : ∃ n, iv.length = n := ⟨_, rfl⟩
  rw [hni] at t2
  have z2 : (S iv).size = ni := by rw [S_size, hni]
  have z3 : (S pl).size = pl.length := S_size pl
  clear hni
  go_enter Tryd.func6, Tryd.ntmps6
  go_wp2_with fail
  go_ret
  exact ⟨rfl, below_alloc _ _⟩
theorem cb_out4 (key mk iv pl : List UInt8) (kd mo : Int) (cs0 : Array Value) (hi : (Tryd.prog.info? 25).map (·.size) = some cs0.size) (h1 : decide ((2147483647 : Int) < key.length) = false) (h1m : decide ((2147483647 : Int) < mk.length) = false) (t2 : decide ((2147483647 : Int) < iv.length) = false) (HFT : Hid (∀ W, Calls Tryd.prog 7 #[.agg cs0] W fun e w' => e = .returned (.bool false) ∧ Below W.heap.size W w')) (w : World) :
    Calls Tryd.prog 6 #[.string (S key), .string (S mk), .string (S iv), .int .i64 kd, .agg cs0, .string (S pl), .int .i64 mo] w fun e w' => e = .returned (.bool true) ∧ Below w.heap.size w w' := by
  have z1 : (S key).size = key.length := S_size key
  have z1' : (S mk).size = mk.length := S_size mk
  obtain ⟨ni, hni⟩ : ∃ n, iv.length = n := ⟨_, rfl⟩
  rw [hni] at t2
  have z2 : (S iv).size = ni := by rw [S_size, hni]
  have z3 : (S pl).size = pl.length := S_size pl
  clear hni
  go_enter Tryd.func6, Tryd.ntmps6
  have hg := Blk.new w 25 cs0
  have hb0 := below_alloc w (.cells cs0 25)
  go_wp2_with (with_reducible refine Held.loadg 25 ?_)
  refine held_loadg_row hg Tryd.underlying25 hi (by rfl) rfl ?_
  generalize (World.alloc w _) = w0 at *
  have HG0 := Lib.hid hg
  have HB0 := Lib.hid hb0
  clear hg hb0
  go_wp2_with fail
  refine (HFT.out w0).mono ?_
  rintro e w1 ⟨rfl, hb1⟩
  have HB1 := Lib.hid (below_two HB0.out hb1)
  have HG1 := Lib.hid (HG0.out.keep hb1)
  clear hb1
  go_wp2_with fail
  go_ret
  exact ⟨rfl, HB1.out⟩
theorem cb_out5 (key mk iv pl : List UInt8) (kd mo : Int) (cs0 : Array Value) (hi : (Tryd.prog.info? 25).map (·.size) = some cs0.size) (h1 : decide ((2147483647 : Int) < key.length) = false) (h1m : decide ((2147483647 : Int) < mk.length) = false) (t2 : decide ((2147483647 : Int) < iv.length) = false) (h3 : decide ((2147483647 : Int) < pl.length) = true) (HFT : Hid (∀ W, Calls Tryd.prog 7 #[.agg cs0] W fun e w' => e = .returned (.bool true) ∧ Below W.heap.size W w')) (w : World) :
    Calls Tryd.prog 6 #[.string (S key), .string (S mk), .string (S iv), .int .i64 kd, .agg cs0, .string (S pl), .int .i64 mo] w fun e w' => e = .returned (.bool true) ∧ Below w.heap.size w w' := by
  have z1 : (S key).size = key.length := S_size key
  have z1' : (S mk).size = mk.length := S_size mk
  obtain ⟨ni, hni⟩ : ∃ n, iv.length = n := ⟨_, rfl⟩
  rw [hni] at t2
  have z2 : (S iv).size = ni := by rw [S_size, hni]
  have z3 : (S pl).size = pl.length := S_size pl
  clear hni
  go_enter Tryd.func6, Tryd.ntmps6
  have hg := Blk.new w 25 cs0
  have hb0 := below_alloc w (.cells cs0 25)
  go_wp2_with (with_reducible refine Held.loadg 25 ?_)
  refine held_loadg_row hg Tryd.underlying25 hi (by rfl) rfl ?_
  generalize (World.alloc w _) = w0 at *
  have HG0 := Lib.hid hg
  have HB0 := Lib.hid hb0
  clear hg hb0
  go_wp2_with fail
  refine (HFT.out w0).mono ?_
  rintro e w1 ⟨rfl, hb1⟩
  have HB1 := Lib.hid (below_two HB0.out hb1)
  have HG1 := Lib.hid (HG0.out.keep hb1)
  clear hb1
  go_wp2_with fail
  go_ret
  exact ⟨rfl, HB1.out⟩
theorem cb_badk (key mk iv pl : List UInt8) (kd mo : Int) (cs0 cs1 : Array Value) (hi : (Tryd.prog.info? 25).map (·.size) = some cs0.size) (hs : cs1.size = cs0.size) (ho : cs1.all (·.oneCell') = true) (h1 : decide ((2147483647 : Int) < key.length) = false) (h1m : decide ((2147483647 : Int) < mk.length) = false) (t2 : decide ((2147483647 : Int) < iv.length) = false) (h3 : decide ((2147483647 : Int) < pl.length) = false) (HFT : Hid (∀ W, Calls Tryd.prog 7 #[.agg cs0] W fun e w' => e = .returned (.bool true) ∧ Below W.heap.size W w')) (HN : Hid (∀ W, Calls Tryd.prog 16 #[.agg cs0] W fun e w' => e = .returned (.agg cs1) ∧ Below W.heap.size W w')) (HKH : Hid (∀ W, Calls Tryd.prog 21 #[.int .i64 kd] W fun e w' => e = .returned (.bool false) ∧ W = w')) (w : World) :
    Calls Tryd.prog 6 #[.string (S key), .string (S mk), .string (S iv), .int .i64 kd, .agg cs0, .string (S pl), .int .i64 mo] w fun e w' => e = .returned (.bool true) ∧ Below w.heap.size w w' := by
  have z1 : (S key).size = key.length := S_size key
  have z1' : (S mk).size = mk.length := S_size mk
  obtain ⟨ni, hni⟩ : ∃ n, iv.length = n := ⟨_, rfl⟩
  rw [hni] at t2
  have z2 : (S iv).size = ni := by rw [S_size, hni]
  have z3 : (S pl).size = pl.length := S_size pl
  clear hni
  go_enter Tryd.func6, Tryd.ntmps6
  have hg := Blk.new w 25 cs0
  have hb0 := below_alloc w (.cells cs0 25)
  go_wp2_with (with_reducible refine Held.loadg 25 ?_)
  refine held_loadg_row hg Tryd.underlying25 hi (by rfl) rfl ?_
  generalize (World.alloc w _) = w0 at *
  have HG0 := Lib.hid hg
  have HB0 := Lib.hid hb0
  clear hg hb0
  go_wp2_with fail
  refine (HFT.out w0).mono ?_
  rintro e w1 ⟨rfl, hb1⟩
  have HB1 := Lib.hid (below_two HB0.out hb1)
  have HG1 := Lib.hid (HG0.out.keep hb1)
  clear hb1
  go_wp2_with (with_reducible refine Held.load 25 ?_)
  refine held_load_row HG1.out Tryd.underlying25 hi rfl ?_
  go_wp2_with fail
  refine (HN.out w1).mono ?_
  rintro e w2 ⟨rfl, hb2⟩
  have HB2 := Lib.hid (below_two HB1.out hb2)
  have HG2 := Lib.hid (HG1.out.keep hb2)
  clear hb2
  go_wp2_with (with_reducible refine Held.store 25 ?_)
  refine held_store_row (cells := cs1) HG2.out (by rw [hs]; exact hi) rfl rfl hs.symm ho fun w3 hk3 hg3 hsz3 => ?_
  have HG3 := Lib.hid hk3
  have HB3 := Lib.hid (below_of_grown HB2.out hg3 (by have := HG2.out.lt; omega) (Nat.le_refl _))
  clear hk3 hg3 hsz3
  go_wp2_with fail
  refine (HKH.out w3).mono ?_
  rintro e w4 ⟨rfl, rfl⟩
  go_wp2_with fail
  go_ret
  exact ⟨rfl, HB3.out⟩
theorem cb_bad1 (key mk iv pl : List UInt8) (kd mo : Int) (cs0 cs1 : Array Value) (hi : (Tryd.prog.info? 25).map (·.size) = some cs0.size) (hs : cs1.size = cs0.size) (ho : cs1.all (·.oneCell') = true) (h1 : decide ((2147483647 : Int) < key.length) = false) (h1m : decide ((2147483647 : Int) < mk.length) = false) (t2 : decide ((2147483647 : Int) < iv.length) = false) (h3 : decide ((2147483647 : Int) < pl.length) = false) (HFT : Hid (∀ W, Calls Tryd.prog 7 #[.agg cs0] W fun e w' => e = .returned (.bool true) ∧ Below W.heap.size W w')) (HN : Hid (∀ W, Calls Tryd.prog 16 #[.agg cs0] W fun e w' => e = .returned (.agg cs1) ∧ Below W.heap.size W w')) (HKH : Hid (∀ W, Calls Tryd.prog 21 #[.int .i64 kd] W fun e w' => e = .returned (.bool true) ∧ W = w')) (HS : Hid (∀ (W : World) (r : Nat), W.cell? ⟨r, 0, none⟩ = some (.string (S key)) → W.cell? ⟨r, 1, none⟩ = some (.string (S mk)) → W.cell? ⟨r, 2, none⟩ = some (.string (S pl)) → Calls Tryd.prog 17 #[.agg cs1, .slice (some ⟨r, 0, none⟩) 3 3] W fun e w' => e = .returned (.bool false) ∧ Below W.heap.size W w')) (w : World) :
    Calls Tryd.prog 6 #[.string (S key), .string (S mk), .string (S iv), .int .i64 kd, .agg cs0, .string (S pl), .int .i64 mo] w fun e w' => e = .returned (.bool true) ∧ Below w.heap.size w w' := by
  have z1 : (S key).size = key.length := S_size key
  have z1' : (S mk).size = mk.length := S_size mk
  obtain ⟨ni, hni⟩ : ∃ n, iv.length = n := ⟨_, rfl⟩
  rw [hni] at t2
  have z2 : (S iv).size = ni := by rw [S_size, hni]
  have z3 : (S pl).size = pl.length := S_size pl
  clear hni
  go_enter Tryd.func6, Tryd.ntmps6
  have hg := Blk.new w 25 cs0
  have hb0 := below_alloc w (.cells cs0 25)
  go_wp2_with (with_reducible refine Held.loadg 25 ?_)
  refine held_loadg_row hg Tryd.underlying25 hi (by rfl) rfl ?_
  generalize (World.alloc w _) = w0 at *
  have HG0 := Lib.hid hg
  have HB0 := Lib.hid hb0
  clear hg hb0
  go_wp2_with fail
  refine (HFT.out w0).mono ?_
  rintro e w1 ⟨rfl, hb1⟩
  have HB1 := Lib.hid (below_two HB0.out hb1)
  have HG1 := Lib.hid (HG0.out.keep hb1)
  clear hb1
  go_wp2_with (with_reducible refine Held.load 25 ?_)
  refine held_load_row HG1.out Tryd.underlying25 hi rfl ?_
  go_wp2_with fail
  refine (HN.out w1).mono ?_
  rintro e w2 ⟨rfl, hb2⟩
  have HB2 := Lib.hid (below_two HB1.out hb2)
  have HG2 := Lib.hid (HG1.out.keep hb2)
  clear hb2
  go_wp2_with (with_reducible refine Held.store 25 ?_)
  refine held_store_row (cells := cs1) HG2.out (by rw [hs]; exact hi) rfl rfl hs.symm ho fun w3 hk3 hg3 hsz3 => ?_
  have HG3 := Lib.hid hk3
  have HB3 := Lib.hid (below_of_grown HB2.out hg3 (by have := HG2.out.lt; omega) (Nat.le_refl _))
  clear hk3 hg3 hsz3
  go_wp2_with fail
  refine (HKH.out w3).mono ?_
  rintro e w4 ⟨rfl, rfl⟩
  go_wp2_with (with_reducible refine Held.loadg 25 ?_)
  refine held_loadg_row HG3.out Tryd.underlying25 (by rw [hs]; exact hi) (by rfl) rfl ?_
  go_wp2_with fail
  have q0 : (w3.alloc (.cells #[.string (S key), .string (S mk), .string (S pl)] 9)).cell? ⟨w3.heap.size, 0, none⟩ = some (.string (S key)) := by simp
  have q1 : (w3.alloc (.cells #[.string (S key), .string (S mk), .string (S pl)] 9)).cell? ⟨w3.heap.size, 1, none⟩ = some (.string (S mk)) := by simp
  have q2 : (w3.alloc (.cells #[.string (S key), .string (S mk), .string (S pl)] 9)).cell? ⟨w3.heap.size, 2, none⟩ = some (.string (S pl)) := by simp
  have hb4 := below_alloc w3 (.cells #[.string (S key), .string (S mk), .string (S pl)] 9)
  generalize (World.alloc w3 _) = w4 at *
  have HB4 := Lib.hid (below_two HB3.out hb4)
  have HG4 := Lib.hid (HG3.out.keep hb4)
  clear hb4
  refine (HS.out w4 _ q0 q1 q2).mono ?_
  clear q0 q1 q2
  rintro e w5 ⟨rfl, hb5⟩
  have HB5 := Lib.hid (below_two HB4.out hb5)
  have HG5 := Lib.hid (HG4.out.keep hb5)
  clear hb5
  go_wp2_with fail
  go_ret
  exact ⟨rfl, HB5.out⟩
theorem cb_bad2 (key mk iv pl : List UInt8) (kd mo : Int) (cs0 cs1 : Array Value) (hi : (Tryd.prog.info? 25).map (·.size) = some cs0.size) (hs : cs1.size = cs0.size) (ho : cs1.all (·.oneCell') = true) (h1 : decide ((2147483647 : Int) < key.length) = false) (h1m : decide ((2147483647 : Int) < mk.length) = false) (t2 : decide ((2147483647 : Int) < iv.length) = false) (h3 : decide ((2147483647 : Int) < pl.length) = false) (t4 : ((iv.length : Int) == 16) = false) (t4' : ¬ iv.length = 16) (HFT : Hid (∀ W, Calls Tryd.prog 7 #[.agg cs0] W fun e w' => e = .returned (.bool true) ∧ Below W.heap.size W w')) (HN : Hid (∀ W, Calls Tryd.prog 16 #[.agg cs0] W fun e w' => e = .returned (.agg cs1) ∧ Below W.heap.size W w')) (HKH : Hid (∀ W, Calls Tryd.prog 21 #[.int .i64 kd] W fun e w' => e = .returned (.bool true) ∧ W = w')) (HS : Hid (∀ (W : World) (r : Nat), W.cell? ⟨r, 0, none⟩ = some (.string (S key)) → W.cell? ⟨r, 1, none⟩ = some (.string (S mk)) → W.cell? ⟨r, 2, none⟩ = some (.string (S pl)) → Calls Tryd.prog 17 #[.agg cs1, .slice (some ⟨r, 0, none⟩) 3 3] W fun e w' => e = .returned (.bool true) ∧ Below W.heap.size W w')) (w : World) :
    Calls Tryd.prog 6 #[.string (S key), .string (S mk), .string (S iv), .int .i64 kd, .agg cs0, .string (S pl), .int .i64 mo] w fun e w' => e = .returned (.bool true) ∧ Below w.heap.size w w' := by
  have z1 : (S key).size = key.length := S_size key
  have z1' : (S mk).size = mk.length := S_size mk
  obtain ⟨ni, hni⟩ : ∃ n, iv.length = n := ⟨_, rfl⟩
  rw [hni] at t2 t4 t4'
  have z2 : (S iv).size = ni := by rw [S_size, hni]
  have z3 : (S pl).size = pl.length := S_size pl
  clear hni
  go_enter Tryd.func6, Tryd.ntmps6
  have hg := Blk.new w 25 cs0
  have hb0 := below_alloc w (.cells cs0 25)
  go_wp2_with (with_reducible refine Held.loadg 25 ?_)
  refine held_loadg_row hg Tryd.underlying25 hi (by rfl) rfl ?_
  generalize (World.alloc w _) = w0 at *
  have HG0 := Lib.hid hg
  have HB0 := Lib.hid hb0
  clear hg hb0
  go_wp2_with fail
  refine (HFT.out w0).mono ?_
  rintro e w1 ⟨rfl, hb1⟩
  have HB1 := Lib.hid (below_two HB0.out hb1)
  have HG1 := Lib.hid (HG0.out.keep hb1)
  clear hb1
  go_wp2_with (with_reducible refine Held.load 25 ?_)
  refine held_load_row HG1.out Tryd.underlying25 hi rfl ?_
  go_wp2_with fail
  refine (HN.out w1).mono ?_
  rintro e w2 ⟨rfl, hb2⟩
  have HB2 := Lib.hid (below_two HB1.out hb2)
  have HG2 := Lib.hid (HG1.out.keep hb2)
  clear hb2
  go_wp2_with (with_reducible refine Held.store 25 ?_)
  refine held_store_row (cells := cs1) HG2.out (by rw [hs]; exact hi) rfl rfl hs.symm ho fun w3 hk3 hg3 hsz3 => ?_
  have HG3 := Lib.hid hk3
  have HB3 := Lib.hid (below_of_grown HB2.out hg3 (by have := HG2.out.lt; omega) (Nat.le_refl _))
  clear hk3 hg3 hsz3
  go_wp2_with fail
  refine (HKH.out w3).mono ?_
  rintro e w4 ⟨rfl, rfl⟩
  go_wp2_with (with_reducible refine Held.loadg 25 ?_)
  refine held_loadg_row HG3.out Tryd.underlying25 (by rw [hs]; exact hi) (by rfl) rfl ?_
  go_wp2_with fail
  have q0 : (w3.alloc (.cells #[.string (S key), .string (S mk), .string (S pl)] 9)).cell? ⟨w3.heap.size, 0, none⟩ = some (.string (S key)) := by simp
  have q1 : (w3.alloc (.cells #[.string (S key), .string (S mk), .string (S pl)] 9)).cell? ⟨w3.heap.size, 1, none⟩ = some (.string (S mk)) := by simp
  have q2 : (w3.alloc (.cells #[.string (S key), .string (S mk), .string (S pl)] 9)).cell? ⟨w3.heap.size, 2, none⟩ = some (.string (S pl)) := by simp
  have hb4 := below_alloc w3 (.cells #[.string (S key), .string (S mk), .string (S pl)] 9)
  generalize (World.alloc w3 _) = w4 at *
  have HB4 := Lib.hid (below_two HB3.out hb4)
  have HG4 := Lib.hid (HG3.out.keep hb4)
  clear hb4
  refine (HS.out w4 _ q0 q1 q2).mono ?_
  clear q0 q1 q2
  rintro e w5 ⟨rfl, hb5⟩
  have HB5 := Lib.hid (below_two HB4.out hb5)
  have HG5 := Lib.hid (HG4.out.keep hb5)
  clear hb5
  go_wp2_with fail
  go_ret
  exact ⟨rfl, HB5.out⟩
theorem cb_bad3 (key mk iv pl : List UInt8) (kd mo : Int) (cs0 cs1 : Array Value) (hi : (Tryd.prog.info? 25).map (·.size) = some cs0.size) (hs : cs1.size = cs0.size) (ho : cs1.all (·.oneCell') = true) (h1 : decide ((2147483647 : Int) < key.length) = false) (h1m : decide ((2147483647 : Int) < mk.length) = false) (t2 : decide ((2147483647 : Int) < iv.length) = false) (h3 : decide ((2147483647 : Int) < pl.length) = false) (t4 : iv.length = 16) (t5 : decide (mo < 0) = true) (t5' : mo < 0) (HFT : Hid (∀ W, Calls Tryd.prog 7 #[.agg cs0] W fun e w' => e = .returned (.bool true) ∧ Below W.heap.size W w')) (HN : Hid (∀ W, Calls Tryd.prog 16 #[.agg cs0] W fun e w' => e = .returned (.agg cs1) ∧ Below W.heap.size W w')) (HKH : Hid (∀ W, Calls Tryd.prog 21 #[.int .i64 kd] W fun e w' => e = .returned (.bool true) ∧ W = w')) (HS : Hid (∀ (W : World) (r : Nat), W.cell? ⟨r, 0, none⟩ = some (.string (S key)) → W.cell? ⟨r, 1, none⟩ = some (.string (S mk)) → W.cell? ⟨r, 2, none⟩ = some (.string (S pl)) → Calls Tryd.prog 17 #[.agg cs1, .slice (some ⟨r, 0, none⟩) 3 3] W fun e w' => e = .returned (.bool true) ∧ Below W.heap.size W w')) (w : World) :
    Calls Tryd.prog 6 #[.string (S key), .string (S mk), .string (S iv), .int .i64 kd, .agg cs0, .string (S pl), .int .i64 mo] w fun e w' => e = .returned (.bool true) ∧ Below w.heap.size w w' := by
  have z1 : (S key).size = key.length := S_size key
  have z1' : (S mk).size = mk.length := S_size mk
  obtain ⟨ni, hni⟩ : ∃ n, iv.length = n := ⟨_, rfl⟩
  rw [hni] at t2 t4
  have z2 : (S iv).size = ni := by rw [S_size, hni]
  have z3 : (S pl).size = pl.length := S_size pl
  clear hni
  subst t4
  go_enter Tryd.func6, Tryd.ntmps6
  have hg := Blk.new w 25 cs0
  have hb0 := below_alloc w (.cells cs0 25)
  go_wp2_with (with_reducible refine Held.loadg 25 ?_)
  refine held_loadg_row hg Tryd.underlying25 hi (by rfl) rfl ?_
  generalize (World.alloc w _) = w0 at *
  have HG0 := Lib.hid hg
  have HB0 := Lib.hid hb0
  clear hg hb0
  go_wp2_with fail
  refine (HFT.out w0).mono ?_
  rintro e w1 ⟨rfl, hb1⟩
  have HB1 := Lib.hid (below_two HB0.out hb1)
  have HG1 := Lib.hid (HG0.out.keep hb1)
  clear hb1
  go_wp2_with (with_reducible refine Held.load 25 ?_)
  refine held_load_row HG1.out Tryd.underlying25 hi rfl ?_
  go_wp2_with fail
  refine (HN.out w1).mono ?_
  rintro e w2 ⟨rfl, hb2⟩
  have HB2 := Lib.hid (below_two HB1.out hb2)
  have HG2 := Lib.hid (HG1.out.keep hb2)
  clear hb2
  go_wp2_with (with_reducible refine Held.store 25 ?_)
  refine held_store_row (cells := cs1) HG2.out (by rw [hs]; exact hi) rfl rfl hs.symm ho fun w3 hk3 hg3 hsz3 => ?_
  have HG3 := Lib.hid hk3
  have HB3 := Lib.hid (below_of_grown HB2.out hg3 (by have := HG2.out.lt; omega) (Nat.le_refl _))
  clear hk3 hg3 hsz3
  go_wp2_with fail
  refine (HKH.out w3).mono ?_
  rintro e w4 ⟨rfl, rfl⟩
  go_wp2_with (with_reducible refine Held.loadg 25 ?_)
  refine held_loadg_row HG3.out Tryd.underlying25 (by rw [hs]; exact hi) (by rfl) rfl ?_
  go_wp2_with fail
  have q0 : (w3.alloc (.cells #[.string (S key), .string (S mk), .string (S pl)] 9)).cell? ⟨w3.heap.size, 0, none⟩ = some (.string (S key)) := by simp
  have q1 : (w3.alloc (.cells #[.string (S key), .string (S mk), .string (S pl)] 9)).cell? ⟨w3.heap.size, 1, none⟩ = some (.string (S mk)) := by simp
  have q2 : (w3.alloc (.cells #[.string (S key), .string (S mk), .string (S pl)] 9)).cell? ⟨w3.heap.size, 2, none⟩ = some (.string (S pl)) := by simp
  have hb4 := below_alloc w3 (.cells #[.string (S key), .string (S mk), .string (S pl)] 9)
  generalize (World.alloc w3 _) = w4 at *
  have HB4 := Lib.hid (below_two HB3.out hb4)
  have HG4 := Lib.hid (HG3.out.keep hb4)
  clear hb4
  refine (HS.out w4 _ q0 q1 q2).mono ?_
  clear q0 q1 q2
  rintro e w5 ⟨rfl, hb5⟩
  have HB5 := Lib.hid (below_two HB4.out hb5)
  have HG5 := Lib.hid (HG4.out.keep hb5)
  clear hb5
  go_wp2_with fail
  go_ret
  exact ⟨rfl, HB5.out⟩
theorem cb_bad4 (key mk iv pl : List UInt8) (kd mo : Int) (cs0 cs1 : Array Value) (hi : (Tryd.prog.info? 25).map (·.size) = some cs0.size) (hs : cs1.size = cs0.size) (ho : cs1.all (·.oneCell') = true) (h1 : decide ((2147483647 : Int) < key.length) = false) (h1m : decide ((2147483647 : Int) < mk.length) = false) (t2 : decide ((2147483647 : Int) < iv.length) = false) (h3 : decide ((2147483647 : Int) < pl.length) = false) (t4 : iv.length = 16) (t5 : decide (mo < 0) = false) (t5' : ¬ mo < 0) (t6 : decide ((14 : Int) < mo) = true) (t6' : (14 : Int) < mo) (HFT : Hid (∀ W, Calls Tryd.prog 7 #[.agg cs0] W fun e w' => e = .returned (.bool true) ∧ Below W.heap.size W w')) (HN : Hid (∀ W, Calls Tryd.prog 16 #[.agg cs0] W fun e w' => e = .returned (.agg cs1) ∧ Below W.heap.size W w')) (HKH : Hid (∀ W, Calls Tryd.prog 21 #[.int .i64 kd] W fun e w' => e = .returned (.bool true) ∧ W = w')) (HS : Hid (∀ (W : World) (r : Nat), W.cell? ⟨r, 0, none⟩ = some (.string (S key)) → W.cell? ⟨r, 1, none⟩ = some (.string (S mk)) → W.cell? ⟨r, 2, none⟩ = some (.string (S pl)) → Calls Tryd.prog 17 #[.agg cs1, .slice (some ⟨r, 0, none⟩) 3 3] W fun e w' => e = .returned (.bool true) ∧ Below W.heap.size W w')) (w : World) :
    Calls Tryd.prog 6 #[.string (S key), .string (S mk), .string (S iv), .int .i64 kd, .agg cs0, .string (S pl), .int .i64 mo] w fun e w' => e = .returned (.bool true) ∧ Below w.heap.size w w' := by
  have z1 : (S key).size = key.length := S_size key
  have z1' : (S mk).size = mk.length := S_size mk
  obtain ⟨ni, hni⟩ : ∃ n, iv.length = n := ⟨_, rfl⟩
  rw [hni] at t2 t4
  have z2 : (S iv).size = ni := by rw [S_size, hni]
  have z3 : (S pl).size = pl.length := S_size pl
  clear hni
  subst t4
  go_enter Tryd.func6, Tryd.ntmps6
  have hg := Blk.new w 25 cs0
  have hb0 := below_alloc w (.cells cs0 25)
  go_wp2_with (with_reducible refine Held.loadg 25 ?_)
  refine held_loadg_row hg Tryd.underlying25 hi (by rfl) rfl ?_
  generalize (World.alloc w _) = w0 at *
  have HG0 := Lib.hid hg
  have HB0 := Lib.hid hb0
  clear hg hb0
  go_wp2_with fail
  refine (HFT.out w0).mono ?_
  rintro e w1 ⟨rfl, hb1⟩
  have HB1 := Lib.hid (below_two HB0.out hb1)
  have HG1 := Lib.hid (HG0.out.keep hb1)
  clear hb1
  go_wp2_with (with_reducible refine Held.load 25 ?_)
  refine held_load_row HG1.out Tryd.underlying25 hi rfl ?_
  go_wp2_with fail
  refine (HN.out w1).mono ?_
  rintro e w2 ⟨rfl, hb2⟩
  have HB2 := Lib.hid (below_two HB1.out hb2)
  have HG2 := Lib.hid (HG1.out.keep hb2)
  clear hb2
  go_wp2_with (with_reducible refine Held.store 25 ?_)
  refine held_store_row (cells := cs1) HG2.out (by rw [hs]; exact hi) rfl rfl hs.symm ho fun w3 hk3 hg3 hsz3 => ?_
  have HG3 := Lib.hid hk3
  have HB3 := Lib.hid (below_of_grown HB2.out hg3 (by have := HG2.out.lt; omega) (Nat.le_refl _))
  clear hk3 hg3 hsz3
  go_wp2_with fail
  refine (HKH.out w3).mono ?_
  rintro e w4 ⟨rfl, rfl⟩
  go_wp2_with (with_reducible refine Held.loadg 25 ?_)
  refine held_loadg_row HG3.out Tryd.underlying25 (by rw [hs]; exact hi) (by rfl) rfl ?_
  go_wp2_with fail
  have q0 : (w3.alloc (.cells #[.string (S key), .string (S mk), .string (S pl)] 9)).cell? ⟨w3.heap.size, 0, none⟩ = some (.string (S key)) := by simp
  have q1 : (w3.alloc (.cells #[.string (S key), .string (S mk), .string (S pl)] 9)).cell? ⟨w3.heap.size, 1, none⟩ = some (.string (S mk)) := by simp
  have q2 : (w3.alloc (.cells #[.string (S key), .string (S mk), .string (S pl)] 9)).cell? ⟨w3.heap.size, 2, none⟩ = some (.string (S pl)) := by simp
  have hb4 := below_alloc w3 (.cells #[.string (S key), .string (S mk), .string (S pl)] 9)
  generalize (World.alloc w3 _) = w4 at *
  have HB4 := Lib.hid (below_two HB3.out hb4)
  have HG4 := Lib.hid (HG3.out.keep hb4)
  clear hb4
  refine (HS.out w4 _ q0 q1 q2).mono ?_
  clear q0 q1 q2
  rintro e w5 ⟨rfl, hb5⟩
  have HB5 := Lib.hid (below_two HB4.out hb5)
  have HG5 := Lib.hid (HG4.out.keep hb5)
  clear hb5
  go_wp2_with fail
  go_ret
  exact ⟨rfl, HB5.out⟩
set_option maxHeartbeats 2000000 in
theorem cb_in (key mk iv pl own : List UInt8) (kd mo : Int) (cs0 : Array Value) (ct ep sq : Nat) (hi : (Tryd.prog.info? 25).map (·.size) = some cs0.size) (hs : (recRow ct 254 253 ep sq 0 []).size = cs0.size) (ho : (recRow ct 254 253 ep sq 0 []).all (·.oneCell') = true) (h1 : decide ((2147483647 : Int) < key.length) = false) (h1m : decide ((2147483647 : Int) < mk.length) = false) (t2 : decide ((2147483647 : Int) < iv.length) = false) (h3 : decide ((2147483647 : Int) < pl.length) = false) (t4 : iv.length = 16) (t5 : decide (mo < 0) = false) (t5' : ¬ mo < 0) (t6 : decide ((14 : Int) < mo) = false) (t6' : ¬ (14 : Int) < mo) (HFT : Hid (∀ W, Calls Tryd.prog 7 #[.agg cs0] W fun e w' => e = .returned (.bool true) ∧ Below W.heap.size W w')) (HN : Hid (∀ W, Calls Tryd.prog 16 #[.agg cs0] W fun e w' => e = .returned (.agg (recRow ct 254 253 ep sq 0 [])) ∧ Below W.heap.size W w')) (HKH : Hid (∀ W, Calls Tryd.prog 21 #[.int .i64 kd] W fun e w' => e = .returned (.bool true) ∧ W = w')) (HS : Hid (∀ (W : World) (r : Nat), W.cell? ⟨r, 0, none⟩ = some (.string (S key)) → W.cell? ⟨r, 1, none⟩ = some (.string (S mk)) → W.cell? ⟨r, 2, none⟩ = some (.string (S pl)) → Calls Tryd.prog 17 #[.agg (recRow ct 254 253 ep sq 0 []), .slice (some ⟨r, 0, none⟩) 3 3] W fun e w' => e = .returned (.bool true) ∧ Below W.heap.size W w')) (w : World) (HSE : Hid (∀ W, Calls Tryd.prog 23 #[.string (S key), .string (S mk), .string (S iv), .int .i64 kd, .agg #[.int .u8 (ct : Int), .int .u8 254, .int .u8 253, .int .u16 (ep : Int), .int .u64 (sq : Int), .int .u16 0, .string (S [])], .string (S pl), .int .i64 mo] W fun e w' => e = .returned (.string (S own)) ∧ Below W.heap.size W w')) (HIO : Hid (∀ W, Below w.heap.size w W → Calls Tryd.prog 22 #[.string (S key), .string (S mk), .int .i64 kd, .agg #[.int .u8 (ct : Int), .int .u8 254, .int .u8 253, .int .u16 (ep : Int), .int .u64 (sq : Int), .int .u16 0, .string (S [])], .string (S own)] W fun e w' => e = .returned (.tuple #[.string (S pl), .bool true]) ∧ Below W.heap.size W w')) :
    Calls Tryd.prog 6 #[.string (S key), .string (S mk), .string (S iv), .int .i64 kd, .agg cs0, .string (S pl), .int .i64 mo] w fun e w' => e = .returned (.bool true) ∧ Below w.heap.size w w' := by
  have z1 : (S key).size = key.length := S_size key
  have z1' : (S mk).size = mk.length := S_size mk
  obtain ⟨ni, hni⟩ : ∃ n, iv.length = n := ⟨_, rfl⟩
  rw [hni] at t2 t4
  have z2 : (S iv).size = ni := by rw [S_size, hni]
  have z3 : (S pl).size = pl.length := S_size pl
  clear hni
  subst t4
  go_enter Tryd.func6, Tryd.ntmps6
  have hg := Blk.new w 25 cs0
  have hb0 := below_alloc w (.cells cs0 25)
  go_wp2_with (with_reducible refine Held.loadg 25 ?_)
  refine held_loadg_row hg Tryd.underlying25 hi (by rfl) rfl ?_
  generalize (World.alloc w _) = w0 at *
  have HG0 := Lib.hid hg
  have HB0 := Lib.hid hb0
  clear hg hb0
  go_wp2_with fail
  refine (HFT.out w0).mono ?_
  rintro e w1 ⟨rfl, hb1⟩
  have HB1 := Lib.hid (below_two HB0.out hb1)
  have HG1 := Lib.hid (HG0.out.keep hb1)
  clear hb1
  go_wp2_with (with_reducible refine Held.load 25 ?_)
  refine held_load_row HG1.out Tryd.underlying25 hi rfl ?_
  go_wp2_with fail
  refine (HN.out w1).mono ?_
  rintro e w2 ⟨rfl, hb2⟩
  have HB2 := Lib.hid (below_two HB1.out hb2)
  have HG2 := Lib.hid (HG1.out.keep hb2)
  clear hb2
  go_wp2_with (with_reducible refine Held.store 25 ?_)
  refine held_store_row (cells := (recRow ct 254 253 ep sq 0 [])) HG2.out (by rw [hs]; exact hi) rfl rfl hs.symm ho fun w3 hk3 hg3 hsz3 => ?_
  have HG3 := Lib.hid hk3
  have HB3 := Lib.hid (below_of_grown HB2.out hg3 (by have := HG2.out.lt; omega) (Nat.le_refl _))
  clear hk3 hg3 hsz3
  go_wp2_with fail
  refine (HKH.out w3).mono ?_
  rintro e w4 ⟨rfl, rfl⟩
  go_wp2_with (with_reducible refine Held.loadg 25 ?_)
  refine held_loadg_row HG3.out Tryd.underlying25 (by rw [hs]; exact hi) (by rfl) rfl ?_
  go_wp2_with fail
  have q0 : (w3.alloc (.cells #[.string (S key), .string (S mk), .string (S pl)] 9)).cell? ⟨w3.heap.size, 0, none⟩ = some (.string (S key)) := by simp
  have q1 : (w3.alloc (.cells #[.string (S key), .string (S mk), .string (S pl)] 9)).cell? ⟨w3.heap.size, 1, none⟩ = some (.string (S mk)) := by simp
  have q2 : (w3.alloc (.cells #[.string (S key), .string (S mk), .string (S pl)] 9)).cell? ⟨w3.heap.size, 2, none⟩ = some (.string (S pl)) := by simp
  have hb4 := below_alloc w3 (.cells #[.string (S key), .string (S mk), .string (S pl)] 9)
  generalize (World.alloc w3 _) = w4 at *
  have HB4 := Lib.hid (below_two HB3.out hb4)
  have HG4 := Lib.hid (HG3.out.keep hb4)
  clear hb4
  refine (HS.out w4 _ q0 q1 q2).mono ?_
  clear q0 q1 q2
  rintro e w5 ⟨rfl, hb5⟩
  have HB5 := Lib.hid (below_two HB4.out hb5)
  have HG5 := Lib.hid (HG4.out.keep hb5)
  clear hb5
  go_wp2_with fail
  have HX : Hid (∀ w', Below w5.heap.size w5 w' → w'.cell? ⟨w.heap.size, 0, none⟩ = some (.int .u8 (ct : Int)) ∧ w'.cell? ⟨w.heap.size, 1, none⟩ = some (.int .u8 254) ∧ w'.cell? ⟨w.heap.size, 2, none⟩ = some (.int .u8 253) ∧ w'.cell? ⟨w.heap.size, 3, none⟩ = some (.int .u16 (ep : Int)) ∧ w'.cell? ⟨w.heap.size, 4, none⟩ = some (.int .u64 (sq : Int)) ∧ w'.cell? ⟨w.heap.size, 5, none⟩ = some (.int .u16 0) ∧ w'.cell? ⟨w.heap.size, 6, none⟩ = some (.string (S []))) := Lib.hid (fun w' hb => recCells_of (HG5.out.keep hb))
  clear HS HN HFT HKH hs hi
  go_region_held_law (fun w' => w'.cell? ⟨w.heap.size, 0, none⟩ = some (.int .u8 (ct : Int)) ∧ w'.cell? ⟨w.heap.size, 1, none⟩ = some (.int .u8 254) ∧ w'.cell? ⟨w.heap.size, 2, none⟩ = some (.int .u8 253) ∧ w'.cell? ⟨w.heap.size, 3, none⟩ = some (.int .u16 (ep : Int)) ∧ w'.cell? ⟨w.heap.size, 4, none⟩ = some (.int .u64 (sq : Int)) ∧ w'.cell? ⟨w.heap.size, 5, none⟩ = some (.int .u16 0) ∧ w'.cell? ⟨w.heap.size, 6, none⟩ = some (.string (S []))) ((refine HX.out _ ?_; (repeat (first | exact Below.refl _ _ | refine below_two ?_ hb8 | refine below_two ?_ hb9 | refine Below.drew ?_)); done)) (first
    | (go_at_call 23; (with_reducible refine (HSE.out _).mono ?_); rintro e w8 ⟨rfl, hb8⟩)
    | (go_at_call 22; (with_reducible refine (HIO.out _ (below_two (below_two HB5.out (below_drew _)) hb8)).mono ?_); rintro e w9 ⟨rfl, hb9⟩))
  all_goals
    have HF := Lib.hid (below_two HB5.out (w2 := w9) (by (repeat (first | exact Below.refl _ _ | refine below_two ?_ hb8 | refine below_two ?_ hb9 | refine Below.drew ?_))))
    clear hb8 hb9
    go_wp2_with fail
    go_ret
    first | exact ⟨rfl, HF.out⟩ | exact ⟨by simp, HF.out⟩
set_option maxHeartbeats 1000000 in
theorem cb_law (ct : UInt8) (maj mn ep sq cl : Nat) (kd mo : Int) (key mk iv cid pl : List UInt8) (hep : ep < 65536) (w : World)
    (v0 : w.cell? ⟨9, 0, none⟩ = some (.int .u8 254) ∧ w.cell? ⟨9, 1, none⟩ = some (.int .u8 255)) (v2 : w.cell? ⟨10, 0, none⟩ = some (.int .u8 254) ∧ w.cell? ⟨10, 1, none⟩ = some (.int .u8 253)) :
    Calls Tryd.prog 6 #[.string (S key), .string (S mk), .string (S iv), .int .i64 kd, .agg (recRow ct.toNat maj mn ep sq cl cid), .string (S pl), .int .i64 mo] w fun e w' => e = .returned (.bool true) ∧ Below w.heap.size w w' := by
  have hi : (Tryd.prog.info? 25).map (·.size) = some (recRow ct.toNat maj mn ep sq cl cid).size := recInfo
  cases h1 : decide ((2147483647 : Int) < key.length) with
  | true => exact cb_out1 key mk iv pl kd mo _ h1 w
  | false =>
  cases h1m : decide ((2147483647 : Int) < mk.length) with
  | true => exact cb_out2 key mk iv pl kd mo _ h1 h1m w
  | false =>
  cases h2 : decide ((2147483647 : Int) < iv.length) with
  | true => exact cb_out3 key mk iv pl kd mo _ h1 h1m h2 w
  | false =>
  cases hc : decide ((2147483647 : Int) < cid.length) with
  | true => exact cb_out4 key mk iv pl kd mo _ hi h1 h1m h2 (Lib.hid (fun W => nofits_any ct.toNat maj mn ep sq cl cid W hc)) w
  | false =>
  have HFT := Lib.hid (fun W => fits_any ct.toNat maj mn ep sq cl cid W hc)
  cases h3 : decide ((2147483647 : Int) < pl.length) with
  | true => exact cb_out5 key mk iv pl kd mo _ hi h1 h1m h2 h3 HFT w
  | false =>
  have HN : Hid (∀ W, Calls Tryd.prog 16 #[.agg (recRow ct.toNat maj mn ep sq cl cid)] W fun e w' => e = .returned (.agg (recRow ct.toNat 254 253 ep sq 0 [])) ∧ Below W.heap.size W w') := Lib.hid (fun W => bare12_any ct.toNat maj mn ep sq cl cid W)
  have hone : (recRow ct.toNat 254 253 ep sq 0 []).all (·.oneCell') = true := by simp [recRow, Value.oneCell']
  by_cases hkd : 0 ≤ kd ∧ kd < 64
  · obtain ⟨kind, rfl⟩ : ∃ k : Nat, kd = (k : Int) := ⟨kd.toNat, by omega⟩
    have hk64 : kind < 64 := by omega
    have HKH := Lib.hid (fun W => keyHash_in kind hk64 W)
    cases hkb : decide (toySize kind ≤ toyBlock kind) with
    | false => rw [hkb] at HKH; exact cb_badk key mk iv pl _ mo _ (recRow ct.toNat 254 253 ep sq 0 []) hi rfl hone h1 h1m h2 h3 HFT HN HKH w
    | true =>
    rw [hkb] at HKH
    by_cases h20 : ct.toNat = 20
    · exact cb_bad1 key mk iv pl _ mo _ (recRow ct.toNat 254 253 ep sq 0 []) hi rfl hone h1 h1m h2 h3 HFT HN HKH (Lib.hid (fun W r _ _ _ => by rw [h20]; exact sealed20 254 253 ep sq 0 [] _ _ _ W)) w
    by_cases h25 : ct.toNat = 25
    · exact cb_bad1 key mk iv pl _ mo _ (recRow ct.toNat 254 253 ep sq 0 []) hi rfl hone h1 h1m h2 h3 HFT HN HKH (Lib.hid (fun W r _ _ _ => by rw [h25]; exact sealed25 254 253 ep sq 0 [] _ _ _ W)) w
    have n20 : ((ct.toNat : Int) == 20) = false := by simp; omega
    have n25 : ((ct.toNat : Int) == 25) = false := by simp; omega
    by_cases hsq : sq ≤ 281474976710655
    · have HF : ∀ (w : World) (r : Nat), w.cell? ⟨r, 0, none⟩ = some (.string (S key)) → w.cell? ⟨r, 1, none⟩ = some (.string (S mk)) → w.cell? ⟨r, 2, none⟩ = some (.string (S pl)) → Calls Tryd.prog 17 #[.agg (recRow ct.toNat 254 253 ep sq 0 []), .slice (some ⟨r, 0, none⟩) 3 3] w fun e w' => e = .returned (.bool ([key, mk, pl].all fun l => decide (l.length ≤ 2000))) ∧ Below w.heap.size w w' := fun w r c0 c1 c2 =>
        sealedYes ct.toNat 254 253 ep sq 0 [] (some ⟨r, 0, none⟩) 3 3 _ n20 h20 n25 h25 (decide_eq_true (by omega)) hsq w (Lib.hid (fun W hW => few_any r 3 [key, mk, pl] rfl (by omega) W (fun i hi => by
          rcases (by omega : i = 0 ∨ i = 1 ∨ i = 2) with rfl | rfl | rfl
          · exact keep_of_below hW _ _ c0
          · exact keep_of_below hW _ _ c1
          · exact keep_of_below hW _ _ c2)))
      cases hf : [key, mk, pl].all fun l => decide (l.length ≤ 2000) with
      | false => rw [hf] at HF; exact cb_bad1 key mk iv pl _ mo _ (recRow ct.toNat 254 253 ep sq 0 []) hi rfl hone h1 h1m h2 h3 HFT HN HKH (Lib.hid HF) w
      | true =>
        rw [hf] at HF
        have hs : key.length ≤ 2000 ∧ mk.length ≤ 2000 ∧ pl.length ≤ 2000 := by simpa using hf
        by_cases h4 : iv.length = 16
        · by_cases h5 : mo < 0
          · exact cb_bad3 key mk iv pl _ mo _ (recRow ct.toNat 254 253 ep sq 0 []) hi rfl hone h1 h1m h2 h3 h4 (decide_eq_true h5) h5 HFT HN HKH (Lib.hid HF) w
          · by_cases h6 : (14 : Int) < mo
            · exact cb_bad4 key mk iv pl _ mo _ (recRow ct.toNat 254 253 ep sq 0 []) hi rfl hone h1 h1m h2 h3 h4 (decide_eq_false h5) h5 (decide_eq_true h6) h6 HFT HN HKH (Lib.hid HF) w
            · obtain ⟨more, rfl⟩ : ∃ t : Nat, mo = (t : Int) := ⟨mo.toNat, by omega⟩
              have hmo : more ≤ 14 := by omega
              obtain ⟨A, hA⟩ : ∃ A, pl.length + toySize kind = A := ⟨_, rfl⟩
              have hA3 : A ≤ 2032 := by rw [← hA]; unfold toySize; omega
              obtain ⟨pn, hpn⟩ : ∃ p, p + A % 16 = 15 + 16 * more := ⟨15 + 16 * more - A % 16, by omega⟩
              obtain ⟨nB, hnB⟩ : ∃ n, A + (pn + 1) = 16 * n := ⟨A / 16 + 1 + more, by omega⟩
              obtain ⟨p, hp⟩ : ∃ p : UInt8, p.toNat = pn := ⟨UInt8.ofNat pn, by rw [UInt8.toNat_ofNat']; omega⟩
              have HSE := Lib.hid (fun W => sCbcSeal key mk iv pl kind hk64 ct p ep sq 0 more pl.length (toySize kind) A pn nB h4 rfl rfl hs.2.2 hs.2.1 hmo hA hpn hp hnB (by omega) W)
              have hxl : (pl ++ toyHmac kind mk (add13 ct 254 253 ep sq pl.length ++ pl) ++ List.replicate (pn + 1) p).length = 16 * nB := by
                rw [List.length_append, List.length_append, List.length_replicate, toyHmac_length]; omega
              have hback := cSho_cHid key nB iv (pl ++ toyHmac kind mk (add13 ct 254 253 ep sq pl.length ++ pl) ++ List.replicate (pn + 1) p) h4 hxl
              rw [← hp] at hback HSE
              have HIO := Lib.hid (fun (W : World) (hW : Below w.heap.size w W) => implCbcOpen key mk iv (cHid key nB iv (pl ++ toyHmac kind mk (add13 ct 254 253 ep sq pl.length ++ pl) ++ List.replicate (p.toNat + 1) p)) pl ct p kind ep sq 0 nB pl.length (toySize kind) (16 * nB) hk64 rfl hs.2.1 h4 (cHid_length _ _ _ _) (by omega) rfl rfl (by omega) hback n20 h20 n25 h25 hep (by omega) W ⟨keep_of_below hW _ _ v0.1, keep_of_below hW _ _ v0.2⟩ ⟨keep_of_below hW _ _ v2.1, keep_of_below hW _ _ v2.2⟩)
              exact cb_in key mk iv pl _ _ _ _ ct.toNat ep sq hi rfl hone h1 h1m h2 h3 h4 (decide_eq_false h5) h5 (decide_eq_false h6) h6 HFT HN HKH (Lib.hid HF) w HSE HIO
        · exact cb_bad2 key mk iv pl _ mo _ (recRow ct.toNat 254 253 ep sq 0 []) hi rfl hone h1 h1m h2 h3 (by simp; omega) h4 HFT HN HKH (Lib.hid HF) w
    · exact cb_bad1 key mk iv pl _ mo _ (recRow ct.toNat 254 253 ep sq 0 []) hi rfl hone h1 h1m h2 h3 HFT HN HKH (Lib.hid (fun W r _ _ _ => sealedLate ct.toNat 254 253 ep sq 0 [] _ _ _ n20 h20 n25 h25 (decide_eq_false (by omega)) hsq W)) w
  · exact cb_badk key mk iv pl kd mo _ (recRow ct.toNat 254 253 ep sq 0 []) hi rfl hone h1 h1m h2 h3 HFT HN (Lib.hid (fun W => keyHash_no kd (by omega) W)) w
theorem cb_row (l0 l1 l2 : List UInt8) (x3' : Int) (wx3 : (Lit.int .i64 x3').wf = true) (cs : Array Value) (hk : cs.size = 7) (x0 : Int) (e0 : cs[0]? = some (.int .u8 x0)) (w0 : (Lit.int .u8 x0).wf = true) (x1 : Int) (e1 : cs[1]? = some (.int .u8 x1)) (w1 : (Lit.int .u8 x1).wf = true) (x2 : Int) (e2 : cs[2]? = some (.int .u8 x2)) (w2 : (Lit.int .u8 x2).wf = true) (x3 : Int) (e3 : cs[3]? = some (.int .u16 x3)) (w3 : (Lit.int .u16 x3).wf = true)
    (x4 : Int) (e4 : cs[4]? = some (.int .u64 x4)) (w4 : (Lit.int .u64 x4).wf = true) (x5 : Int) (e5 : cs[5]? = some (.int .u16 x5)) (w5 : (Lit.int .u16 x5).wf = true) (l6 : List UInt8) (e6 : cs[6]? = some (.string (S l6))) (l5 : List UInt8) (x6 : Int) (wx6 : (Lit.int .i64 x6).wf = true) (w : World)
    (g0 : w.cell? ⟨9, 0, none⟩ = some (.int .u8 254) ∧ w.cell? ⟨9, 1, none⟩ = some (.int .u8 255)) (g1 : w.cell? ⟨10, 0, none⟩ = some (.int .u8 254) ∧ w.cell? ⟨10, 1, none⟩ = some (.int .u8 253))
    {p2 : Prop} (ad2 : Addr) (g2 : p2) {p3 : Prop} (ad3 : Addr) (g3 : p3) {p4 : Prop} (ad4 : Addr) (g4 : p4) {p5 : Prop} (ad5 : Addr) (g5 : p5) {p6 : Prop} (ad6 : Addr) (g6 : p6) :
    Calls Tryd.prog 6 #[.string (S l0), .string (S l1), .string (S l2), .int .i64 x3', .agg cs, .string (S l5), .int .i64 x6] w fun e w' => e = .returned (.bool true) ∧ Below w.heap.size w w' := by
  obtain ⟨ct, rfl, hct⟩ := nat_u8 w0
  obtain ⟨maj, rfl, hmaj⟩ := nat_u8 w1
  obtain ⟨mn, rfl, hmn⟩ := nat_u8 w2
  obtain ⟨ep, rfl, hep⟩ := nat_u16 w3
  obtain ⟨sq, rfl, _⟩ := nat_u64 w4
  obtain ⟨cl, rfl, _⟩ := nat_u16 w5
  obtain ⟨u, rfl⟩ : ∃ u : UInt8, u.toNat = ct := ⟨UInt8.ofNat ct, by rw [UInt8.toNat_ofNat']; omega⟩
  have hcs : cs = recRow u.toNat maj mn ep sq cl l6 := by
    apply Array.ext_getElem?
    intro i
    match i with
    | 0 => exact e0
    | 1 => exact e1
    | 2 => exact e2
    | 3 => exact e3
    | 4 => exact e4
    | 5 => exact e5
    | 6 => exact e6
    | i + 7 =>
      rw [Array.getElem?_eq_none (by omega), Array.getElem?_eq_none (by simp [recRow])]
  rw [hcs]
  exact cb_law u maj mn ep sq cl x3' x6 l0 l1 l2 l6 l5 (by omega) w g0 g1
end Go.Proofs.YtpedkkmoplbdhaaDoor
