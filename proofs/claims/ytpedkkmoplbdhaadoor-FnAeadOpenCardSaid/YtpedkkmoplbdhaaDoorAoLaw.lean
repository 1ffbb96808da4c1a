/- Walks: the law about a record with an explicit nonce that is opened. -/
import Derived.Test.YtpedkkmoplbdhaaDoorAoJ
import Derived.Test.YtpedkkmoplbdhaaDoorAoQ
import Derived.Test.YtpedkkmoplbdhaaDoorAoL
import Derived.Test.YtpedkkmoplbdhaaDoorAoB
import Derived.Test.YtpedkkmoplbdhaaDoorAoP
import Derived.Test.YtpedkkmoplbdhaaDoorTop
import Derived.Test.YtpedkkmoplbdhaaDoorBase
namespace Go.Proofs.YtpedkkmoplbdhaaDoor
open Go.RowKit Go.Cv
set_option maxRecDepth 100000
set_option linter.unusedVariables false
theorem ao_out1 (key iv body : List UInt8) (T : Int) (cs0 : Array Value) (h1 : decide ((2147483647 : Int) < key.length) = true) (w : World) :
    Calls Tryd.prog 5 #[.string (S key), .string (S iv), .int .i64 T, .agg cs0, .string (S body)] w fun e w' => e = .returned (.bool true) ∧ Below w.heap.size w w' := by
  have z1 : (S key).size = key.length := S_size key
  go_enter Tryd.func5, Tryd.ntmps5
  go_wp2_with fail
  go_ret
  exact ⟨rfl, below_alloc _ _⟩
theorem ao_out2 (key iv body : List UInt8) (T : Int) (cs0 : Array Value) (h1 : decide ((2147483647 : Int) < key.length) = false) (t2 : decide ((2147483647 : Int) < iv.length) = true) (w : World) :
    Calls Tryd.prog 5 #[.string (S key), .string (S iv), .int .i64 T, .agg cs0, .string (S body)] w fun e w' => e = .returned (.bool true) ∧ Below w.heap.size w w' := by
  have z1 : (S key).size = key.length := S_size key
  obtain ⟨ni, hni⟩ : ∃ n, iv.length = n := ⟨_, rfl⟩
  rw [hni] at t2
  have z2 : (S iv).size = ni := by rw [S_size, hni]
  have z3 : (S body).size = body.length := S_size body
  clear hni
  go_enter Tryd.func5, Tryd.ntmps5
  go_wp2_with fail
  go_ret
  exact ⟨rfl, below_alloc _ _⟩
theorem ao_out3 (key iv body : List UInt8) (T : Int) (cs0 : Array Value) (hi : (Tryd.prog.info? 25).map (·.size) = some cs0.size) (h1 : decide ((2147483647 : Int) < key.length) = false) (t2 : decide ((2147483647 : Int) < iv.length) = false) (HFT : Hid (∀ W, Calls Tryd.prog 7 #[.agg cs0] W fun e w' => e = .returned (.bool false) ∧ Below W.heap.size W w')) (w : World) :
    Calls Tryd.prog 5 #[.string (S key), .string (S iv), .int .i64 T, .agg cs0, .string (S body)] w fun e w' => e = .returned (.bool true) ∧ Below w.heap.size w w' := by
  have z1 : (S key).size = key.length := S_size key
  obtain ⟨ni, hni⟩ : ∃ n, iv.length = n := ⟨_, rfl⟩
  rw [hni] at t2
  have z2 : (S iv).size = ni := by rw [S_size, hni]
  have z3 : (S body).size = body.length := S_size body
  clear hni
  go_enter Tryd.func5, Tryd.ntmps5
  have hg := Blk.new w 25 cs0
  have hb0 := below_alloc w (.cells cs0 25)
  go_wp2_with (with_reducible refine Held.loadg 25 ?_)
  refine held_loadg_row hg Tryd.underlying25 hi (by rfl) rfl ?_
  generalize (World.alloc w _) = w0 at *
  have HG0 := Lib.hid hg
  have HB0 := Lib.hid hb0
  clear hg hb0
  go_wp2_with fail
  refine (HFT.out w0).mono ?_
  rintro e w1 ⟨rfl, hb1⟩
  have HB1 := Lib.hid (below_two HB0.out hb1)
  have HG1 := Lib.hid (HG0.out.keep hb1)
  clear hb1
  go_wp2_with fail
  go_ret
  exact ⟨rfl, HB1.out⟩
theorem ao_out4 (key iv body : List UInt8) (T : Int) (cs0 : Array Value) (hi : (Tryd.prog.info? 25).map (·.size) = some cs0.size) (h1 : decide ((2147483647 : Int) < key.length) = false) (t2 : decide ((2147483647 : Int) < iv.length) = false) (h3 : decide ((2147483647 : Int) < body.length) = true) (HFT : Hid (∀ W, Calls Tryd.prog 7 #[.agg cs0] W fun e w' => e = .returned (.bool true) ∧ Below W.heap.size W w')) (w : World) :
    Calls Tryd.prog 5 #[.string (S key), .string (S iv), .int .i64 T, .agg cs0, .string (S body)] w fun e w' => e = .returned (.bool true) ∧ Below w.heap.size w w' := by
  have z1 : (S key).size = key.length := S_size key
  obtain ⟨ni, hni⟩ : ∃ n, iv.length = n := ⟨_, rfl⟩
  rw [hni] at t2
  have z2 : (S iv).size = ni := by rw [S_size, hni]
  have z3 : (S body).size = body.length := S_size body
  clear hni
  go_enter Tryd.func5, Tryd.ntmps5
  have hg := Blk.new w 25 cs0
  have hb0 := below_alloc w (.cells cs0 25)
  go_wp2_with (with_reducible refine Held.loadg 25 ?_)
  refine held_loadg_row hg Tryd.underlying25 hi (by rfl) rfl ?_
  generalize (World.alloc w _) = w0 at *
  have HG0 := Lib.hid hg
  have HB0 := Lib.hid hb0
  clear hg hb0
  go_wp2_with fail
  refine (HFT.out w0).mono ?_
  rintro e w1 ⟨rfl, hb1⟩
  have HB1 := Lib.hid (below_two HB0.out hb1)
  have HG1 := Lib.hid (HG0.out.keep hb1)
  clear hb1
  go_wp2_with fail
  go_ret
  exact ⟨rfl, HB1.out⟩
theorem ao_bad1 (key iv body : List UInt8) (T : Int) (cs0 cs1 : Array Value) (hi : (Tryd.prog.info? 25).map (·.size) = some cs0.size) (hs : cs1.size = cs0.size) (ho : cs1.all (·.oneCell') = true) (h1 : decide ((2147483647 : Int) < key.length) = false) (t2 : decide ((2147483647 : Int) < iv.length) = false) (h3 : decide ((2147483647 : Int) < body.length) = false) (HFT : Hid (∀ W, Calls Tryd.prog 7 #[.agg cs0] W fun e w' => e = .returned (.bool true) ∧ Below W.heap.size W w')) (HN : Hid (∀ W, Calls Tryd.prog 16 #[.agg cs0] W fun e w' => e = .returned (.agg cs1) ∧ Below W.heap.size W w')) (HS : Hid (∀ (W : World) (r : Nat), W.cell? ⟨r, 0, none⟩ = some (.string (S key)) → W.cell? ⟨r, 1, none⟩ = some (.string (S body)) → Calls Tryd.prog 17 #[.agg cs1, .slice (some ⟨r, 0, none⟩) 2 2] W fun e w' => e = .returned (.bool false) ∧ Below W.heap.size W w')) (w : World) :
    Calls Tryd.prog 5 #[.string (S key), .string (S iv), .int .i64 T, .agg cs0, .string (S body)] w fun e w' => e = .returned (.bool true) ∧ Below w.heap.size w w' := by
  have z1 : (S key).size = key.length := S_size key
  obtain ⟨ni, hni⟩ : ∃ n, iv.length = n := ⟨_, rfl⟩
  rw [hni] at t2
  have z2 : (S iv).size = ni := by rw [S_size, hni]
  have z3 : (S body).size = body.length := S_size body
  clear hni
  go_enter Tryd.func5, Tryd.ntmps5
  have hg := Blk.new w 25 cs0
  have hb0 := below_alloc w (.cells cs0 25)
  go_wp2_with (with_reducible refine Held.loadg 25 ?_)
  refine held_loadg_row hg Tryd.underlying25 hi (by rfl) rfl ?_
  generalize (World.alloc w _) = w0 at *
  have HG0 := Lib.hid hg
  have HB0 := Lib.hid hb0
  clear hg hb0
  go_wp2_with fail
  refine (HFT.out w0).mono ?_
  rintro e w1 ⟨rfl, hb1⟩
  have HB1 := Lib.hid (below_two HB0.out hb1)
  have HG1 := Lib.hid (HG0.out.keep hb1)
  clear hb1
  go_wp2_with (with_reducible refine Held.load 25 ?_)
  refine held_load_row HG1.out Tryd.underlying25 hi rfl ?_
  go_wp2_with fail
  refine (HN.out w1).mono ?_
  rintro e w2 ⟨rfl, hb2⟩
  have HB2 := Lib.hid (below_two HB1.out hb2)
  have HG2 := Lib.hid (HG1.out.keep hb2)
  clear hb2
  go_wp2_with (with_reducible refine Held.store 25 ?_)
  refine held_store_row (cells := cs1) HG2.out (by rw [hs]; exact hi) rfl rfl hs.symm ho fun w3 hk3 hg3 hsz3 => ?_
  have HG3 := Lib.hid hk3
  have HB3 := Lib.hid (below_of_grown HB2.out hg3 (by have := HG2.out.lt; omega) (Nat.le_refl _))
  clear hk3 hg3 hsz3
  go_wp2_with (with_reducible refine Held.load 25 ?_)
  refine held_load_row HG3.out Tryd.underlying25 (by rw [hs]; exact hi) rfl ?_
  go_wp2_with fail
  have q0 : (w3.alloc (.cells #[.string (S key), .string (S body)] 9)).cell? ⟨w3.heap.size, 0, none⟩ = some (.string (S key)) := by simp
  have q1 : (w3.alloc (.cells #[.string (S key), .string (S body)] 9)).cell? ⟨w3.heap.size, 1, none⟩ = some (.string (S body)) := by simp
  have hb4 := below_alloc w3 (.cells #[.string (S key), .string (S body)] 9)
  generalize (World.alloc w3 _) = w4 at *
  have HB4 := Lib.hid (below_two HB3.out hb4)
  have HG4 := Lib.hid (HG3.out.keep hb4)
  clear hb4
  refine (HS.out w4 _ q0 q1).mono ?_
  clear q0 q1
  rintro e w5 ⟨rfl, hb5⟩
  have HB5 := Lib.hid (below_two HB4.out hb5)
  have HG5 := Lib.hid (HG4.out.keep hb5)
  clear hb5
  go_wp2_with fail
  go_ret
  exact ⟨rfl, HB5.out⟩
theorem ao_bad2 (key iv body : List UInt8) (T : Int) (cs0 cs1 : Array Value) (hi : (Tryd.prog.info? 25).map (·.size) = some cs0.size) (hs : cs1.size = cs0.size) (ho : cs1.all (·.oneCell') = true) (h1 : decide ((2147483647 : Int) < key.length) = false) (t2 : decide ((2147483647 : Int) < iv.length) = false) (h3 : decide ((2147483647 : Int) < body.length) = false) (t4 : ((iv.length : Int) == 4) = false) (t4' : ¬ iv.length = 4) (HFT : Hid (∀ W, Calls Tryd.prog 7 #[.agg cs0] W fun e w' => e = .returned (.bool true) ∧ Below W.heap.size W w')) (HN : Hid (∀ W, Calls Tryd.prog 16 #[.agg cs0] W fun e w' => e = .returned (.agg cs1) ∧ Below W.heap.size W w')) (HS : Hid (∀ (W : World) (r : Nat), W.cell? ⟨r, 0, none⟩ = some (.string (S key)) → W.cell? ⟨r, 1, none⟩ = some (.string (S body)) → Calls Tryd.prog 17 #[.agg cs1, .slice (some ⟨r, 0, none⟩) 2 2] W fun e w' => e = .returned (.bool true) ∧ Below W.heap.size W w')) (w : World) :
    Calls Tryd.prog 5 #[.string (S key), .string (S iv), .int .i64 T, .agg cs0, .string (S body)] w fun e w' => e = .returned (.bool true) ∧ Below w.heap.size w w' := by
  have z1 : (S key).size = key.length := S_size key
  obtain ⟨ni, hni⟩ : ∃ n, iv.length = n := ⟨_, rfl⟩
  rw [hni] at t2 t4 t4'
  have z2 : (S iv).size = ni := by rw [S_size, hni]
  have z3 : (S body).size = body.length := S_size body
  clear hni
  go_enter Tryd.func5, Tryd.ntmps5
  have hg := Blk.new w 25 cs0
  have hb0 := below_alloc w (.cells cs0 25)
  go_wp2_with (with_reducible refine Held.loadg 25 ?_)
  refine held_loadg_row hg Tryd.underlying25 hi (by rfl) rfl ?_
  generalize (World.alloc w _) = w0 at *
  have HG0 := Lib.hid hg
  have HB0 := Lib.hid hb0
  clear hg hb0
  go_wp2_with fail
  refine (HFT.out w0).mono ?_
  rintro e w1 ⟨rfl, hb1⟩
  have HB1 := Lib.hid (below_two HB0.out hb1)
  have HG1 := Lib.hid (HG0.out.keep hb1)
  clear hb1
  go_wp2_with (with_reducible refine Held.load 25 ?_)
  refine held_load_row HG1.out Tryd.underlying25 hi rfl ?_
  go_wp2_with fail
  refine (HN.out w1).mono ?_
  rintro e w2 ⟨rfl, hb2⟩
  have HB2 := Lib.hid (below_two HB1.out hb2)
  have HG2 := Lib.hid (HG1.out.keep hb2)
  clear hb2
  go_wp2_with (with_reducible refine Held.store 25 ?_)
  refine held_store_row (cells := cs1) HG2.out (by rw [hs]; exact hi) rfl rfl hs.symm ho fun w3 hk3 hg3 hsz3 => ?_
  have HG3 := Lib.hid hk3
  have HB3 := Lib.hid (below_of_grown HB2.out hg3 (by have := HG2.out.lt; omega) (Nat.le_refl _))
  clear hk3 hg3 hsz3
  go_wp2_with (with_reducible refine Held.load 25 ?_)
  refine held_load_row HG3.out Tryd.underlying25 (by rw [hs]; exact hi) rfl ?_
  go_wp2_with fail
  have q0 : (w3.alloc (.cells #[.string (S key), .string (S body)] 9)).cell? ⟨w3.heap.size, 0, none⟩ = some (.string (S key)) := by simp
  have q1 : (w3.alloc (.cells #[.string (S key), .string (S body)] 9)).cell? ⟨w3.heap.size, 1, none⟩ = some (.string (S body)) := by simp
  have hb4 := below_alloc w3 (.cells #[.string (S key), .string (S body)] 9)
  generalize (World.alloc w3 _) = w4 at *
  have HB4 := Lib.hid (below_two HB3.out hb4)
  have HG4 := Lib.hid (HG3.out.keep hb4)
  clear hb4
  refine (HS.out w4 _ q0 q1).mono ?_
  clear q0 q1
  rintro e w5 ⟨rfl, hb5⟩
  have HB5 := Lib.hid (below_two HB4.out hb5)
  have HG5 := Lib.hid (HG4.out.keep hb5)
  clear hb5
  go_wp2_with fail
  go_ret
  exact ⟨rfl, HB5.out⟩
theorem ao_bad3 (key iv body : List UInt8) (T : Int) (cs0 cs1 : Array Value) (hi : (Tryd.prog.info? 25).map (·.size) = some cs0.size) (hs : cs1.size = cs0.size) (ho : cs1.all (·.oneCell') = true) (h1 : decide ((2147483647 : Int) < key.length) = false) (t2 : decide ((2147483647 : Int) < iv.length) = false) (h3 : decide ((2147483647 : Int) < body.length) = false) (t4 : iv.length = 4) (t5 : decide (T < 1) = true) (t5' : T < 1) (HFT : Hid (∀ W, Calls Tryd.prog 7 #[.agg cs0] W fun e w' => e = .returned (.bool true) ∧ Below W.heap.size W w')) (HN : Hid (∀ W, Calls Tryd.prog 16 #[.agg cs0] W fun e w' => e = .returned (.agg cs1) ∧ Below W.heap.size W w')) (HS : Hid (∀ (W : World) (r : Nat), W.cell? ⟨r, 0, none⟩ = some (.string (S key)) → W.cell? ⟨r, 1, none⟩ = some (.string (S body)) → Calls Tryd.prog 17 #[.agg cs1, .slice (some ⟨r, 0, none⟩) 2 2] W fun e w' => e = .returned (.bool true) ∧ Below W.heap.size W w')) (w : World) :
    Calls Tryd.prog 5 #[.string (S key), .string (S iv), .int .i64 T, .agg cs0, .string (S body)] w fun e w' => e = .returned (.bool true) ∧ Below w.heap.size w w' := by
  have z1 : (S key).size = key.length := S_size key
  obtain ⟨ni, hni⟩ : ∃ n, iv.length = n := ⟨_, rfl⟩
  rw [hni] at t2 t4
  have z2 : (S iv).size = ni := by rw [S_size, hni]
  have z3 : (S body).size = body.length := S_size body
  clear hni
  subst t4
  go_enter Tryd.func5, Tryd.ntmps5
  have hg := Blk.new w 25 cs0
  have hb0 := below_alloc w (.cells cs0 25)
  go_wp2_with (with_reducible refine Held.loadg 25 ?_)
  refine held_loadg_row hg Tryd.underlying25 hi (by rfl) rfl ?_
  generalize (World.alloc w _) = w0 at *
  have HG0 := Lib.hid hg
  have HB0 := Lib.hid hb0
  clear hg hb0
  go_wp2_with fail
  refine (HFT.out w0).mono ?_
  rintro e w1 ⟨rfl, hb1⟩
  have HB1 := Lib.hid (below_two HB0.out hb1)
  have HG1 := Lib.hid (HG0.out.keep hb1)
  clear hb1
  go_wp2_with (with_reducible refine Held.load 25 ?_)
  refine held_load_row HG1.out Tryd.underlying25 hi rfl ?_
  go_wp2_with fail
  refine (HN.out w1).mono ?_
  rintro e w2 ⟨rfl, hb2⟩
  have HB2 := Lib.hid (below_two HB1.out hb2)
  have HG2 := Lib.hid (HG1.out.keep hb2)
  clear hb2
  go_wp2_with (with_reducible refine Held.store 25 ?_)
  refine held_store_row (cells := cs1) HG2.out (by rw [hs]; exact hi) rfl rfl hs.symm ho fun w3 hk3 hg3 hsz3 => ?_
  have HG3 := Lib.hid hk3
  have HB3 := Lib.hid (below_of_grown HB2.out hg3 (by have := HG2.out.lt; omega) (Nat.le_refl _))
  clear hk3 hg3 hsz3
  go_wp2_with (with_reducible refine Held.load 25 ?_)
  refine held_load_row HG3.out Tryd.underlying25 (by rw [hs]; exact hi) rfl ?_
  go_wp2_with fail
  have q0 : (w3.alloc (.cells #[.string (S key), .string (S body)] 9)).cell? ⟨w3.heap.size, 0, none⟩ = some (.string (S key)) := by simp
  have q1 : (w3.alloc (.cells #[.string (S key), .string (S body)] 9)).cell? ⟨w3.heap.size, 1, none⟩ = some (.string (S body)) := by simp
  have hb4 := below_alloc w3 (.cells #[.string (S key), .string (S body)] 9)
  generalize (World.alloc w3 _) = w4 at *
  have HB4 := Lib.hid (below_two HB3.out hb4)
  have HG4 := Lib.hid (HG3.out.keep hb4)
  clear hb4
  refine (HS.out w4 _ q0 q1).mono ?_
  clear q0 q1
  rintro e w5 ⟨rfl, hb5⟩
  have HB5 := Lib.hid (below_two HB4.out hb5)
  have HG5 := Lib.hid (HG4.out.keep hb5)
  clear hb5
  go_wp2_with fail
  go_ret
  exact ⟨rfl, HB5.out⟩
theorem ao_bad4 (key iv body : List UInt8) (T : Int) (cs0 cs1 : Array Value) (hi : (Tryd.prog.info? 25).map (·.size) = some cs0.size) (hs : cs1.size = cs0.size) (ho : cs1.all (·.oneCell') = true) (h1 : decide ((2147483647 : Int) < key.length) = false) (t2 : decide ((2147483647 : Int) < iv.length) = false) (h3 : decide ((2147483647 : Int) < body.length) = false) (t4 : iv.length = 4) (t5 : decide (T < 1) = false) (t5' : ¬ T < 1) (t6 : decide ((16 : Int) < T) = true) (t6' : (16 : Int) < T) (HFT : Hid (∀ W, Calls Tryd.prog 7 #[.agg cs0] W fun e w' => e = .returned (.bool true) ∧ Below W.heap.size W w')) (HN : Hid (∀ W, Calls Tryd.prog 16 #[.agg cs0] W fun e w' => e = .returned (.agg cs1) ∧ Below W.heap.size W w')) (HS : Hid (∀ (W : World) (r : Nat), W.cell? ⟨r, 0, none⟩ = some (.string (S key)) → W.cell? ⟨r, 1, none⟩ = some (.string (S body)) → Calls Tryd.prog 17 #[.agg cs1, .slice (some ⟨r, 0, none⟩) 2 2] W fun e w' => e = .returned (.bool true) ∧ Below W.heap.size W w')) (w : World) :
    Calls Tryd.prog 5 #[.string (S key), .string (S iv), .int .i64 T, .agg cs0, .string (S body)] w fun e w' => e = .returned (.bool true) ∧ Below w.heap.size w w' := by
  have z1 : (S key).size = key.length := S_size key
  obtain ⟨ni, hni⟩ : ∃ n, iv.length = n := ⟨_, rfl⟩
  rw [hni] at t2 t4
  have z2 : (S iv).size = ni := by rw [S_size, hni]
  have z3 : (S body).size = body.length := S_size body
  clear hni
  subst t4
  go_enter Tryd.func5, Tryd.ntmps5
  have hg := Blk.new w 25 cs0
  have hb0 := below_alloc w (.cells cs0 25)
  go_wp2_with (with_reducible refine Held.loadg 25 ?_)
  refine held_loadg_row hg Tryd.underlying25 hi (by rfl) rfl ?_
  generalize (World.alloc w _) = w0 at *
  have HG0 := Lib.hid hg
  have HB0 := Lib.hid hb0
  clear hg hb0
  go_wp2_with fail
  refine (HFT.out w0).mono ?_
  rintro e w1 ⟨rfl, hb1⟩
  have HB1 := Lib.hid (below_two HB0.out hb1)
  have HG1 := Lib.hid (HG0.out.keep hb1)
  clear hb1
  go_wp2_with (with_reducible refine Held.load 25 ?_)
  refine held_load_row HG1.out Tryd.underlying25 hi rfl ?_
  go_wp2_with fail
  refine (HN.out w1).mono ?_
  rintro e w2 ⟨rfl, hb2⟩
  have HB2 := Lib.hid (below_two HB1.out hb2)
  have HG2 := Lib.hid (HG1.out.keep hb2)
  clear hb2
  go_wp2_with (with_reducible refine Held.store 25 ?_)
  refine held_store_row (cells := cs1) HG2.out (by rw [hs]; exact hi) rfl rfl hs.symm ho fun w3 hk3 hg3 hsz3 => ?_
  have HG3 := Lib.hid hk3
  have HB3 := Lib.hid (below_of_grown HB2.out hg3 (by have := HG2.out.lt; omega) (Nat.le_refl _))
  clear hk3 hg3 hsz3
  go_wp2_with (with_reducible refine Held.load 25 ?_)
  refine held_load_row HG3.out Tryd.underlying25 (by rw [hs]; exact hi) rfl ?_
  go_wp2_with fail
  have q0 : (w3.alloc (.cells #[.string (S key), .string (S body)] 9)).cell? ⟨w3.heap.size, 0, none⟩ = some (.string (S key)) := by simp
  have q1 : (w3.alloc (.cells #[.string (S key), .string (S body)] 9)).cell? ⟨w3.heap.size, 1, none⟩ = some (.string (S body)) := by simp
  have hb4 := below_alloc w3 (.cells #[.string (S key), .string (S body)] 9)
  generalize (World.alloc w3 _) = w4 at *
  have HB4 := Lib.hid (below_two HB3.out hb4)
  have HG4 := Lib.hid (HG3.out.keep hb4)
  clear hb4
  refine (HS.out w4 _ q0 q1).mono ?_
  clear q0 q1
  rintro e w5 ⟨rfl, hb5⟩
  have HB5 := Lib.hid (below_two HB4.out hb5)
  have HG5 := Lib.hid (HG4.out.keep hb5)
  clear hb5
  go_wp2_with fail
  go_ret
  exact ⟨rfl, HB5.out⟩
set_option maxHeartbeats 2000000 in
theorem ao_in_no (key iv body s own : List UInt8) (T : Int) (cs0 : Array Value) (ct ep sq : Nat) (hi : (Tryd.prog.info? 25).map (·.size) = some cs0.size) (hs : (recRow ct 254 253 ep sq 0 []).size = cs0.size) (ho : (recRow ct 254 253 ep sq 0 []).all (·.oneCell') = true) (h1 : decide ((2147483647 : Int) < key.length) = false) (t2 : decide ((2147483647 : Int) < iv.length) = false) (h3 : decide ((2147483647 : Int) < body.length) = false) (t4 : iv.length = 4) (t5 : decide (T < 1) = false) (t5' : ¬ T < 1) (t6 : decide ((16 : Int) < T) = false) (t6' : ¬ (16 : Int) < T) (HFT : Hid (∀ W, Calls Tryd.prog 7 #[.agg cs0] W fun e w' => e = .returned (.bool true) ∧ Below W.heap.size W w')) (HN : Hid (∀ W, Calls Tryd.prog 16 #[.agg cs0] W fun e w' => e = .returned (.agg (recRow ct 254 253 ep sq 0 [])) ∧ Below W.heap.size W w')) (HS : Hid (∀ (W : World) (r : Nat), W.cell? ⟨r, 0, none⟩ = some (.string (S key)) → W.cell? ⟨r, 1, none⟩ = some (.string (S body)) → Calls Tryd.prog 17 #[.agg (recRow ct 254 253 ep sq 0 []), .slice (some ⟨r, 0, none⟩) 2 2] W fun e w' => e = .returned (.bool true) ∧ Below W.heap.size W w')) (w : World) (HIM : Hid (∀ W, Below w.heap.size w W → Calls Tryd.prog 18 #[.string (S key), .string (S iv), .int .i64 T, .agg (recRow ct 254 253 ep sq 0 []), .string (S body)] W fun e w' => e = .returned (.tuple #[.string (S s), .bool false]) ∧ Below W.heap.size W w')) (HSP : Hid (∀ W, Calls Tryd.prog 19 #[.string (S key), .string (S iv), .int .i64 T, .agg (recRow ct 254 253 ep sq 0 []), .string (S body)] W fun e w' => e = .returned (.tuple #[.string (S s), .bool false]) ∧ Below W.heap.size W w')) (HSE : Hid (∀ W, Calls Tryd.prog 20 #[.string (S key), .string (S iv), .string { data := #[101, 120, 112, 108, 105, 99, 105, 116] }, .int .i64 T, .agg #[.int .u8 (ct : Int), .int .u8 254, .int .u8 253, .int .u16 (ep : Int), .int .u64 (sq : Int), .int .u16 0, .string (S [])], .string { data := #[111, 119, 110] }] W fun e w' => e = .returned (.string (S own)) ∧ Below W.heap.size W w')) (HIO : Hid (∀ W, Below w.heap.size w W → Calls Tryd.prog 18 #[.string (S key), .string (S iv), .int .i64 T, .agg #[.int .u8 (ct : Int), .int .u8 254, .int .u8 253, .int .u16 (ep : Int), .int .u64 (sq : Int), .int .u16 0, .string (S [])], .string (S own)] W fun e w' => e = .returned (.tuple #[.string (S [111, 119, 110]), .bool true]) ∧ Below W.heap.size W w')) :
    Calls Tryd.prog 5 #[.string (S key), .string (S iv), .int .i64 T, .agg cs0, .string (S body)] w fun e w' => e = .returned (.bool true) ∧ Below w.heap.size w w' := by
  have z1 : (S key).size = key.length := S_size key
  obtain ⟨ni, hni⟩ : ∃ n, iv.length = n := ⟨_, rfl⟩
  rw [hni] at t2 t4
  have z2 : (S iv).size = ni := by rw [S_size, hni]
  have z3 : (S body).size = body.length := S_size body
  clear hni
  subst t4
  go_enter Tryd.func5, Tryd.ntmps5
  have hg := Blk.new w 25 cs0
  have hb0 := below_alloc w (.cells cs0 25)
  go_wp2_with (with_reducible refine Held.loadg 25 ?_)
  refine held_loadg_row hg Tryd.underlying25 hi (by rfl) rfl ?_
  generalize (World.alloc w _) = w0 at *
  have HG0 := Lib.hid hg
  have HB0 := Lib.hid hb0
  clear hg hb0
  go_wp2_with fail
  refine (HFT.out w0).mono ?_
  rintro e w1 ⟨rfl, hb1⟩
  have HB1 := Lib.hid (below_two HB0.out hb1)
  have HG1 := Lib.hid (HG0.out.keep hb1)
  clear hb1
  go_wp2_with (with_reducible refine Held.load 25 ?_)
  refine held_load_row HG1.out Tryd.underlying25 hi rfl ?_
  go_wp2_with fail
  refine (HN.out w1).mono ?_
  rintro e w2 ⟨rfl, hb2⟩
  have HB2 := Lib.hid (below_two HB1.out hb2)
  have HG2 := Lib.hid (HG1.out.keep hb2)
  clear hb2
  go_wp2_with (with_reducible refine Held.store 25 ?_)
  refine held_store_row (cells := (recRow ct 254 253 ep sq 0 [])) HG2.out (by rw [hs]; exact hi) rfl rfl hs.symm ho fun w3 hk3 hg3 hsz3 => ?_
  have HG3 := Lib.hid hk3
  have HB3 := Lib.hid (below_of_grown HB2.out hg3 (by have := HG2.out.lt; omega) (Nat.le_refl _))
  clear hk3 hg3 hsz3
  go_wp2_with (with_reducible refine Held.load 25 ?_)
  refine held_load_row HG3.out Tryd.underlying25 (by rw [hs]; exact hi) rfl ?_
  go_wp2_with fail
  have q0 : (w3.alloc (.cells #[.string (S key), .string (S body)] 9)).cell? ⟨w3.heap.size, 0, none⟩ = some (.string (S key)) := by simp
  have q1 : (w3.alloc (.cells #[.string (S key), .string (S body)] 9)).cell? ⟨w3.heap.size, 1, none⟩ = some (.string (S body)) := by simp
  have hb4 := below_alloc w3 (.cells #[.string (S key), .string (S body)] 9)
  generalize (World.alloc w3 _) = w4 at *
  have HB4 := Lib.hid (below_two HB3.out hb4)
  have HG4 := Lib.hid (HG3.out.keep hb4)
  clear hb4
  refine (HS.out w4 _ q0 q1).mono ?_
  clear q0 q1
  rintro e w5 ⟨rfl, hb5⟩
  have HB5 := Lib.hid (below_two HB4.out hb5)
  have HG5 := Lib.hid (HG4.out.keep hb5)
  clear hb5
  go_wp2_with (with_reducible refine Held.load 25 ?_)
  refine held_load_row HG5.out Tryd.underlying25 (by rw [hs]; exact hi) rfl ?_
  go_wp2_with fail
  refine (HIM.out w5 HB5.out).mono ?_
  rintro e w6 ⟨rfl, hb6⟩
  have HB6 := Lib.hid (below_two HB5.out hb6)
  have HG6 := Lib.hid (HG5.out.keep hb6)
  clear hb6
  go_wp2_with (with_reducible refine Held.load 25 ?_)
  refine held_load_row HG6.out Tryd.underlying25 (by rw [hs]; exact hi) rfl ?_
  go_wp2_with fail
  refine (HSP.out w6).mono ?_
  rintro e w7 ⟨rfl, hb7⟩
  have HB7 := Lib.hid (below_two HB6.out hb7)
  have HG7 := Lib.hid (HG6.out.keep hb7)
  clear hb7
  go_wp2_with fail
  have HX : Hid (∀ w', Below w7.heap.size w7 w' → w'.cell? ⟨w.heap.size, 0, none⟩ = some (.int .u8 (ct : Int)) ∧ w'.cell? ⟨w.heap.size, 1, none⟩ = some (.int .u8 254) ∧ w'.cell? ⟨w.heap.size, 2, none⟩ = some (.int .u8 253) ∧ w'.cell? ⟨w.heap.size, 3, none⟩ = some (.int .u16 (ep : Int)) ∧ w'.cell? ⟨w.heap.size, 4, none⟩ = some (.int .u64 (sq : Int)) ∧ w'.cell? ⟨w.heap.size, 5, none⟩ = some (.int .u16 0) ∧ w'.cell? ⟨w.heap.size, 6, none⟩ = some (.string (S []))) := Lib.hid (fun w' hb => recCells_of (HG7.out.keep hb))
  clear HIM HSP HS HN HFT hs hi
  go_region_held_law (fun w' => w'.cell? ⟨w.heap.size, 0, none⟩ = some (.int .u8 (ct : Int)) ∧ w'.cell? ⟨w.heap.size, 1, none⟩ = some (.int .u8 254) ∧ w'.cell? ⟨w.heap.size, 2, none⟩ = some (.int .u8 253) ∧ w'.cell? ⟨w.heap.size, 3, none⟩ = some (.int .u16 (ep : Int)) ∧ w'.cell? ⟨w.heap.size, 4, none⟩ = some (.int .u64 (sq : Int)) ∧ w'.cell? ⟨w.heap.size, 5, none⟩ = some (.int .u16 0) ∧ w'.cell? ⟨w.heap.size, 6, none⟩ = some (.string (S []))) ((refine HX.out _ ?_; (repeat (first | exact Below.refl _ _ | refine below_two ?_ hb8 | refine below_two ?_ hb9 | refine Below.drew ?_)); done)) (first
    | (go_at_call 20; (with_reducible refine (HSE.out _).mono ?_); rintro e w8 ⟨rfl, hb8⟩)
    | (go_at_call 18; (with_reducible refine (HIO.out _ (below_two (below_two HB7.out (below_drew _)) hb8)).mono ?_); rintro e w9 ⟨rfl, hb9⟩))
  all_goals
    have HF := Lib.hid (below_two HB7.out (w2 := w9) (by (repeat (first | exact Below.refl _ _ | refine below_two ?_ hb8 | refine below_two ?_ hb9 | refine Below.drew ?_))))
    clear hb8 hb9
    go_wp2_with fail
    go_ret
    exact ⟨by simp [S_toList], HF.out⟩
set_option maxHeartbeats 2000000 in
theorem ao_in_yes (key iv body s own : List UInt8) (T : Int) (cs0 : Array Value) (ct ep sq : Nat) (hi : (Tryd.prog.info? 25).map (·.size) = some cs0.size) (hs : (recRow ct 254 253 ep sq 0 []).size = cs0.size) (ho : (recRow ct 254 253 ep sq 0 []).all (·.oneCell') = true) (h1 : decide ((2147483647 : Int) < key.length) = false) (t2 : decide ((2147483647 : Int) < iv.length) = false) (h3 : decide ((2147483647 : Int) < body.length) = false) (t4 : iv.length = 4) (t5 : decide (T < 1) = false) (t5' : ¬ T < 1) (t6 : decide ((16 : Int) < T) = false) (t6' : ¬ (16 : Int) < T) (HFT : Hid (∀ W, Calls Tryd.prog 7 #[.agg cs0] W fun e w' => e = .returned (.bool true) ∧ Below W.heap.size W w')) (HN : Hid (∀ W, Calls Tryd.prog 16 #[.agg cs0] W fun e w' => e = .returned (.agg (recRow ct 254 253 ep sq 0 [])) ∧ Below W.heap.size W w')) (HS : Hid (∀ (W : World) (r : Nat), W.cell? ⟨r, 0, none⟩ = some (.string (S key)) → W.cell? ⟨r, 1, none⟩ = some (.string (S body)) → Calls Tryd.prog 17 #[.agg (recRow ct 254 253 ep sq 0 []), .slice (some ⟨r, 0, none⟩) 2 2] W fun e w' => e = .returned (.bool true) ∧ Below W.heap.size W w')) (w : World) (HIM : Hid (∀ W, Below w.heap.size w W → Calls Tryd.prog 18 #[.string (S key), .string (S iv), .int .i64 T, .agg (recRow ct 254 253 ep sq 0 []), .string (S body)] W fun e w' => e = .returned (.tuple #[.string (S s), .bool true]) ∧ Below W.heap.size W w')) (HSP : Hid (∀ W, Calls Tryd.prog 19 #[.string (S key), .string (S iv), .int .i64 T, .agg (recRow ct 254 253 ep sq 0 []), .string (S body)] W fun e w' => e = .returned (.tuple #[.string (S s), .bool true]) ∧ Below W.heap.size W w')) (HSE : Hid (∀ W, Calls Tryd.prog 20 #[.string (S key), .string (S iv), .string { data := #[101, 120, 112, 108, 105, 99, 105, 116] }, .int .i64 T, .agg #[.int .u8 (ct : Int), .int .u8 254, .int .u8 253, .int .u16 (ep : Int), .int .u64 (sq : Int), .int .u16 0, .string (S [])], .string { data := #[111, 119, 110] }] W fun e w' => e = .returned (.string (S own)) ∧ Below W.heap.size W w')) (HIO : Hid (∀ W, Below w.heap.size w W → Calls Tryd.prog 18 #[.string (S key), .string (S iv), .int .i64 T, .agg #[.int .u8 (ct : Int), .int .u8 254, .int .u8 253, .int .u16 (ep : Int), .int .u64 (sq : Int), .int .u16 0, .string (S [])], .string (S own)] W fun e w' => e = .returned (.tuple #[.string (S [111, 119, 110]), .bool true]) ∧ Below W.heap.size W w')) :
    Calls Tryd.prog 5 #[.string (S key), .string (S iv), .int .i64 T, .agg cs0, .string (S body)] w fun e w' => e = .returned (.bool true) ∧ Below w.heap.size w w' := by
  have z1 : (S key).size = key.length := S_size key
  obtain ⟨ni, hni⟩ : ∃ n, iv.length = n := ⟨_, rfl⟩
  rw [hni] at t2 t4
  have z2 : (S iv).size = ni := by rw [S_size, hni]
  have z3 : (S body).size = body.length := S_size body
  clear hni
  subst t4
  go_enter Tryd.func5, Tryd.ntmps5
  have hg := Blk.new w 25 cs0
  have hb0 := below_alloc w (.cells cs0 25)
  go_wp2_with (with_reducible refine Held.loadg 25 ?_)
  refine held_loadg_row hg Tryd.underlying25 hi (by rfl) rfl ?_
  generalize (World.alloc w _) = w0 at *
  have HG0 := Lib.hid hg
  have HB0 := Lib.hid hb0
  clear hg hb0
  go_wp2_with fail
  refine (HFT.out w0).mono ?_
  rintro e w1 ⟨rfl, hb1⟩
  have HB1 := Lib.hid (below_two HB0.out hb1)
  have HG1 := Lib.hid (HG0.out.keep hb1)
  clear hb1
  go_wp2_with (with_reducible refine Held.load 25 ?_)
  refine held_load_row HG1.out Tryd.underlying25 hi rfl ?_
  go_wp2_with fail
  refine (HN.out w1).mono ?_
  rintro e w2 ⟨rfl, hb2⟩
  have HB2 := Lib.hid (below_two HB1.out hb2)
  have HG2 := Lib.hid (HG1.out.keep hb2)
  clear hb2
  go_wp2_with (with_reducible refine Held.store 25 ?_)
  refine held_store_row (cells := (recRow ct 254 253 ep sq 0 [])) HG2.out (by rw [hs]; exact hi) rfl rfl hs.symm ho fun w3 hk3 hg3 hsz3 => ?_
  have HG3 := Lib.hid hk3
  have HB3 := Lib.hid (below_of_grown HB2.out hg3 (by have := HG2.out.lt; omega) (Nat.le_refl _))
  clear hk3 hg3 hsz3
  go_wp2_with (with_reducible refine Held.load 25 ?_)
  refine held_load_row HG3.out Tryd.underlying25 (by rw [hs]; exact hi) rfl ?_
  go_wp2_with fail
  have q0 : (w3.alloc (.cells #[.string (S key), .string (S body)] 9)).cell? ⟨w3.heap.size, 0, none⟩ = some (.string (S key)) := by simp
  have q1 : (w3.alloc (.cells #[.string (S key), .string (S body)] 9)).cell? ⟨w3.heap.size, 1, none⟩ = some (.string (S body)) := by simp
  have hb4 := below_alloc w3 (.cells #[.string (S key), .string (S body)] 9)
  generalize (World.alloc w3 _) = w4 at *
  have HB4 := Lib.hid (below_two HB3.out hb4)
  have HG4 := Lib.hid (HG3.out.keep hb4)
  clear hb4
  refine (HS.out w4 _ q0 q1).mono ?_
  clear q0 q1
  rintro e w5 ⟨rfl, hb5⟩
  have HB5 := Lib.hid (below_two HB4.out hb5)
  have HG5 := Lib.hid (HG4.out.keep hb5)
  clear hb5
  go_wp2_with (with_reducible refine Held.load 25 ?_)
  refine held_load_row HG5.out Tryd.underlying25 (by rw [hs]; exact hi) rfl ?_
  go_wp2_with fail
  refine (HIM.out w5 HB5.out).mono ?_
  rintro e w6 ⟨rfl, hb6⟩
  have HB6 := Lib.hid (below_two HB5.out hb6)
  have HG6 := Lib.hid (HG5.out.keep hb6)
  clear hb6
  go_wp2_with (with_reducible refine Held.load 25 ?_)
  refine held_load_row HG6.out Tryd.underlying25 (by rw [hs]; exact hi) rfl ?_
  go_wp2_with fail
  refine (HSP.out w6).mono ?_
  rintro e w7 ⟨rfl, hb7⟩
  have HB7 := Lib.hid (below_two HB6.out hb7)
  have HG7 := Lib.hid (HG6.out.keep hb7)
  clear hb7
  go_wp2_with fail
  have HX : Hid (∀ w', Below w7.heap.size w7 w' → w'.cell? ⟨w.heap.size, 0, none⟩ = some (.int .u8 (ct : Int)) ∧ w'.cell? ⟨w.heap.size, 1, none⟩ = some (.int .u8 254) ∧ w'.cell? ⟨w.heap.size, 2, none⟩ = some (.int .u8 253) ∧ w'.cell? ⟨w.heap.size, 3, none⟩ = some (.int .u16 (ep : Int)) ∧ w'.cell? ⟨w.heap.size, 4, none⟩ = some (.int .u64 (sq : Int)) ∧ w'.cell? ⟨w.heap.size, 5, none⟩ = some (.int .u16 0) ∧ w'.cell? ⟨w.heap.size, 6, none⟩ = some (.string (S []))) := Lib.hid (fun w' hb => recCells_of (HG7.out.keep hb))
  clear HIM HSP HS HN HFT hs hi
  go_region_held_law (fun w' => w'.cell? ⟨w.heap.size, 0, none⟩ = some (.int .u8 (ct : Int)) ∧ w'.cell? ⟨w.heap.size, 1, none⟩ = some (.int .u8 254) ∧ w'.cell? ⟨w.heap.size, 2, none⟩ = some (.int .u8 253) ∧ w'.cell? ⟨w.heap.size, 3, none⟩ = some (.int .u16 (ep : Int)) ∧ w'.cell? ⟨w.heap.size, 4, none⟩ = some (.int .u64 (sq : Int)) ∧ w'.cell? ⟨w.heap.size, 5, none⟩ = some (.int .u16 0) ∧ w'.cell? ⟨w.heap.size, 6, none⟩ = some (.string (S []))) ((refine HX.out _ ?_; (repeat (first | exact Below.refl _ _ | refine below_two ?_ hb8 | refine below_two ?_ hb9 | refine Below.drew ?_)); done)) (first
    | (go_at_call 20; (with_reducible refine (HSE.out _).mono ?_); rintro e w8 ⟨rfl, hb8⟩)
    | (go_at_call 18; (with_reducible refine (HIO.out _ (below_two (below_two HB7.out (below_drew _)) hb8)).mono ?_); rintro e w9 ⟨rfl, hb9⟩))
  all_goals
    have HF := Lib.hid (below_two HB7.out (w2 := w9) (by (repeat (first | exact Below.refl _ _ | refine below_two ?_ hb8 | refine below_two ?_ hb9 | refine Below.drew ?_))))
    clear hb8 hb9
    go_wp2_with fail
    go_ret
    exact ⟨by simp [S_toList], HF.out⟩
theorem specAe (key iv body : List UInt8) (ct : UInt8) (ep sq T : Nat) (hk : key.length ≤ 2000) (hiv : iv.length = 4) (hb : body.length ≤ 2000) (h1 : 1 ≤ T) (h2 : T ≤ 16) (n25 : ((ct.toNat : Int) == 25) = false) (n25' : ¬ ct.toNat = 25) (hep : ep < 65536) (w : World) :
    Calls Tryd.prog 19 #[.string (S key), .string (S iv), .int .i64 (T : Nat), .agg (recRow ct.toNat 254 253 ep sq 0 []), .string (S body)] w fun e w' => e = .returned (.tuple #[.string (S ((aRec key iv body ct ep sq T).getD [])), .bool (aRec key iv body ct ep sq T).isSome]) ∧ Below w.heap.size w w' := by
  by_cases hf : body.length < 8 + T
  · rw [aRec, if_pos hf]
    exact specAeFew key iv body _ body.length T rfl hf h2 w
  · rw [aRec, if_neg hf]
    have ha : addS ct.toNat 254 253 ep sq (body.length - 8 - T) = add13 ct 254 253 ep sq (body.length - 8 - T) := add_same ct 254 253 ep sq _
    rw [← ha]
    exact specAeOpen key iv body ct.toNat ep sq 0 body.length (body.length - 8 - T) T hk hiv rfl (by omega) (by omega) h1 h2 n25 n25' (by have := ct.toNat_lt; omega) (by omega) w
set_option maxHeartbeats 1000000 in
theorem ao_law (ct : UInt8) (maj mn ep sq cl : Nat) (T : Int) (key iv cid body : List UInt8) (t1 t7 : TypeId) (v1 v7 : Value) (hep : ep < 65536) (w : World)
    (v0 : w.cell? ⟨9, 0, none⟩ = some (.int .u8 254) ∧ w.cell? ⟨9, 1, none⟩ = some (.int .u8 255)) (v2 : w.cell? ⟨10, 0, none⟩ = some (.int .u8 254) ∧ w.cell? ⟨10, 1, none⟩ = some (.int .u8 253)) (e1 : w.cell? ⟨1, 0, none⟩ = some (.iface t1 v1)) (e7 : w.cell? ⟨7, 0, none⟩ = some (.iface t7 v7)) :
    Calls Tryd.prog 5 #[.string (S key), .string (S iv), .int .i64 T, .agg (recRow ct.toNat maj mn ep sq cl cid), .string (S body)] w fun e w' => e = .returned (.bool true) ∧ Below w.heap.size w w' := by
  have hi : (Tryd.prog.info? 25).map (·.size) = some (recRow ct.toNat maj mn ep sq cl cid).size := recInfo
  cases h1 : decide ((2147483647 : Int) < key.length) with
  | true => exact ao_out1 key iv body T _ h1 w
  | false =>
  cases h2 : decide ((2147483647 : Int) < iv.length) with
  | true => exact ao_out2 key iv body T _ h1 h2 w
  | false =>
  cases hc : decide ((2147483647 : Int) < cid.length) with
  | true => exact ao_out3 key iv body T _ hi h1 h2 (Lib.hid (fun W => nofits_any ct.toNat maj mn ep sq cl cid W hc)) w
  | false =>
  have HFT := Lib.hid (fun W => fits_any ct.toNat maj mn ep sq cl cid W hc)
  cases h3 : decide ((2147483647 : Int) < body.length) with
  | true => exact ao_out4 key iv body T _ hi h1 h2 h3 HFT w
  | false =>
  have HN : Hid (∀ W, Calls Tryd.prog 16 #[.agg (recRow ct.toNat maj mn ep sq cl cid)] W fun e w' => e = .returned (.agg (recRow ct.toNat 254 253 ep sq 0 [])) ∧ Below W.heap.size W w') := Lib.hid (fun W => bare12_any ct.toNat maj mn ep sq cl cid W)
  have hone : (recRow ct.toNat 254 253 ep sq 0 []).all (·.oneCell') = true := by simp [recRow, Value.oneCell']
  by_cases h20 : ct.toNat = 20
  · exact ao_bad1 key iv body T _ (recRow ct.toNat 254 253 ep sq 0 []) hi rfl hone h1 h2 h3 HFT HN (Lib.hid (fun W r _ _ => by rw [h20]; exact sealed20 254 253 ep sq 0 [] _ _ _ W)) w
  by_cases h25 : ct.toNat = 25
  · exact ao_bad1 key iv body T _ (recRow ct.toNat 254 253 ep sq 0 []) hi rfl hone h1 h2 h3 HFT HN (Lib.hid (fun W r _ _ => by rw [h25]; exact sealed25 254 253 ep sq 0 [] _ _ _ W)) w
  have n20 : ((ct.toNat : Int) == 20) = false := by simp; omega
  have n25 : ((ct.toNat : Int) == 25) = false := by simp; omega
  by_cases hsq : sq ≤ 281474976710655
  · have HF : ∀ (w : World) (r : Nat), w.cell? ⟨r, 0, none⟩ = some (.string (S key)) → w.cell? ⟨r, 1, none⟩ = some (.string (S body)) → Calls Tryd.prog 17 #[.agg (recRow ct.toNat 254 253 ep sq 0 []), .slice (some ⟨r, 0, none⟩) 2 2] w fun e w' => e = .returned (.bool ([key, body].all fun l => decide (l.length ≤ 2000))) ∧ Below w.heap.size w w' := fun w r c0 c1 =>
      sealedYes ct.toNat 254 253 ep sq 0 [] (some ⟨r, 0, none⟩) 2 2 _ n20 h20 n25 h25 (decide_eq_true (by omega)) hsq w (Lib.hid (fun W hW => few_any r 2 [key, body] rfl (by omega) W (fun i hi => by
        rcases (by omega : i = 0 ∨ i = 1) with rfl | rfl
        · exact keep_of_below hW _ _ c0
        · exact keep_of_below hW _ _ c1)))
    cases hf : [key, body].all fun l => decide (l.length ≤ 2000) with
    | false => rw [hf] at HF; exact ao_bad1 key iv body T _ (recRow ct.toNat 254 253 ep sq 0 []) hi rfl hone h1 h2 h3 HFT HN (Lib.hid HF) w
    | true =>
      rw [hf] at HF
      have hs : key.length ≤ 2000 ∧ body.length ≤ 2000 := by simpa using hf
      by_cases h4 : iv.length = 4
      · by_cases h5 : T < 1
        · exact ao_bad3 key iv body T _ (recRow ct.toNat 254 253 ep sq 0 []) hi rfl hone h1 h2 h3 h4 (decide_eq_true h5) h5 HFT HN (Lib.hid HF) w
        · by_cases h6 : (16 : Int) < T
          · exact ao_bad4 key iv body T _ (recRow ct.toNat 254 253 ep sq 0 []) hi rfl hone h1 h2 h3 h4 (decide_eq_false h5) h5 (decide_eq_true h6) h6 HFT HN (Lib.hid HF) w
          · obtain ⟨t, rfl⟩ : ∃ t : Nat, T = (t : Int) := ⟨T.toNat, by omega⟩
            have g1 : 1 ≤ t := by omega
            have g2 : t ≤ 16 := by omega
            have HI (b : List UInt8) (hb : b.length ≤ 3000) := fun (W : World) (hW : Below w.heap.size w W) => implAeOpen key iv b ct t ep sq 0 t1 t7 v1 v7 hs.1 h4 hb g1 g2 n20 h20 n25 h25 hep (by omega) W ⟨keep_of_below hW _ _ v0.1, keep_of_below hW _ _ v0.2⟩ ⟨keep_of_below hW _ _ v2.1, keep_of_below hW _ _ v2.2⟩ (keep_of_below hW _ _ e1) (keep_of_below hW _ _ e7)
            have HSP := Lib.hid (fun W => specAe key iv body ct ep sq t hs.1 h4 hs.2 g1 g2 n25 h25 hep W)
            have HIM := Lib.hid (HI body (by omega))
            have ha : addS ct.toNat 254 253 ep sq 3 = add13 ct 254 253 ep sq 3 := add_same ct 254 253 ep sq 3
            obtain ⟨sl, hsl⟩ : ∃ s, aSeal key (iv ++ [101, 120, 112, 108, 105, 99, 105, 116]) [111, 119, 110] (add13 ct 254 253 ep sq 3) t = s := ⟨_, rfl⟩
            have hll := aSeal_length key (iv ++ [101, 120, 112, 108, 105, 99, 105, 116]) [111, 119, 110] (add13 ct 254 253 ep sq 3) t (by omega)
            rw [hsl] at hll
            have hll : sl.length = 3 + t := hll
            have HSE := Lib.hid (fun W => specAeSeal key iv [101, 120, 112, 108, 105, 99, 105, 116] [111, 119, 110] ct.toNat ep sq 0 3 t hs.1 h4 rfl rfl (by omega) g1 g2 n25 h25 (by have := ct.toNat_lt; omega) (by omega) W)
            rw [ha, hsl] at HSE
            have hro : aRec key iv ([101, 120, 112, 108, 105, 99, 105, 116] ++ sl) ct ep sq t = some [111, 119, 110] := by
              rw [aRec, if_neg (by rw [List.length_append, hll]; simp), show ([101, 120, 112, 108, 105, 99, 105, 116] ++ sl : List UInt8).length - 8 - t = 3 by rw [List.length_append, hll]; simp]
              show aOpen key (iv ++ [101, 120, 112, 108, 105, 99, 105, 116]) sl (add13 ct 254 253 ep sq 3) t = _
              rw [← hsl]
              exact aOpen_aSeal key _ _ _ t (by omega)
            have HIO := Lib.hid (HI ([101, 120, 112, 108, 105, 99, 105, 116] ++ sl) (by rw [List.length_append, hll]; simp; omega))
            rw [hro] at HIO
            cases hr : aRec key iv body ct ep sq t with
            | none =>
              rw [hr] at HSP HIM
              exact ao_in_no key iv body [] _ _ _ ct.toNat ep sq hi rfl hone h1 h2 h3 h4 (decide_eq_false h5) h5 (decide_eq_false h6) h6 HFT HN (Lib.hid HF) w HIM HSP HSE HIO
            | some p =>
              rw [hr] at HSP HIM
              exact ao_in_yes key iv body p _ _ _ ct.toNat ep sq hi rfl hone h1 h2 h3 h4 (decide_eq_false h5) h5 (decide_eq_false h6) h6 HFT HN (Lib.hid HF) w HIM HSP HSE HIO
      · exact ao_bad2 key iv body T _ (recRow ct.toNat 254 253 ep sq 0 []) hi rfl hone h1 h2 h3 (by simp; omega) h4 HFT HN (Lib.hid HF) w
  · exact ao_bad1 key iv body T _ (recRow ct.toNat 254 253 ep sq 0 []) hi rfl hone h1 h2 h3 HFT HN (Lib.hid (fun W r _ _ => sealedLate ct.toNat 254 253 ep sq 0 [] _ _ _ n20 h20 n25 h25 (decide_eq_false (by omega)) hsq W)) w
theorem ao_row (l0 l1 : List UInt8) (x : Int) (wx : (Lit.int .i64 x).wf = true) (cs : Array Value) (hk : cs.size = 7) (x0 : Int) (e0 : cs[0]? = some (.int .u8 x0)) (w0 : (Lit.int .u8 x0).wf = true) (x1 : Int) (e1 : cs[1]? = some (.int .u8 x1)) (w1 : (Lit.int .u8 x1).wf = true) (x2 : Int) (e2 : cs[2]? = some (.int .u8 x2)) (w2 : (Lit.int .u8 x2).wf = true) (x3 : Int) (e3 : cs[3]? = some (.int .u16 x3)) (w3 : (Lit.int .u16 x3).wf = true)
    (x4 : Int) (e4 : cs[4]? = some (.int .u64 x4)) (w4 : (Lit.int .u64 x4).wf = true) (x5 : Int) (e5 : cs[5]? = some (.int .u16 x5)) (w5 : (Lit.int .u16 x5).wf = true) (l6 : List UInt8) (e6 : cs[6]? = some (.string (S l6))) (l4 : List UInt8) (w : World)
    (g0 : w.cell? ⟨9, 0, none⟩ = some (.int .u8 254) ∧ w.cell? ⟨9, 1, none⟩ = some (.int .u8 255)) (g1 : w.cell? ⟨10, 0, none⟩ = some (.int .u8 254) ∧ w.cell? ⟨10, 1, none⟩ = some (.int .u8 253))
    {p2 : Prop} (ad2 : Addr) (g2 : p2) {p3 : Prop} (ad3 : Addr) (g3 : p3) {p4 : Prop} (ad4 : Addr) (g4 : p4)
    (ad5 : Addr) (g5 : w.cell? ⟨1, 0, none⟩ = some (.iface 187 (.pointer (some ad5)))) (ad6 : Addr) (g6 : w.cell? ⟨7, 0, none⟩ = some (.iface 187 (.pointer (some ad6)))) :
    Calls Tryd.prog 5 #[.string (S l0), .string (S l1), .int .i64 x, .agg cs, .string (S l4)] w fun e w' => e = .returned (.bool true) ∧ Below w.heap.size w w' := by
  obtain ⟨ct, rfl, hct⟩ := nat_u8 w0
  obtain ⟨maj, rfl, hmaj⟩ := nat_u8 w1
  obtain ⟨mn, rfl, hmn⟩ := nat_u8 w2
  obtain ⟨ep, rfl, hep⟩ := nat_u16 w3
  obtain ⟨sq, rfl, _⟩ := nat_u64 w4
  obtain ⟨cl, rfl, _⟩ := nat_u16 w5
  obtain ⟨u, rfl⟩ : ∃ u : UInt8, u.toNat = ct := ⟨UInt8.ofNat ct, by rw [UInt8.toNat_ofNat']; omega⟩
  have hcs : cs = recRow u.toNat maj mn ep sq cl l6 := by
    apply Array.ext_getElem?
    intro i
    match i with
    | 0 => exact e0
    | 1 => exact e1
    | 2 => exact e2
    | 3 => exact e3
    | 4 => exact e4
    | 5 => exact e5
    | 6 => exact e6
    | i + 7 =>
      rw [Array.getElem?_eq_none (by omega), Array.getElem?_eq_none (by simp [recRow])]
  rw [hcs]
  exact ao_law u maj mn ep sq cl x l0 l1 l6 l4 _ _ _ _ (by omega) w g0 g1 g5 g6
end Go.Proofs.YtpedkkmoplbdhaaDoor
