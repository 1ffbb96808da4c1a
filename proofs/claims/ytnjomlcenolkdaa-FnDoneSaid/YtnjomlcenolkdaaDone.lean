/- Walks: a server's hello done, written and read. -/
import Derived.Test.YtnjomlcenolkdaaBig
import Derived.Test.YtnjomlcenolkdaaRow
import Derived.Test.YtnjomlcenolkdaaSame
namespace Go.Proofs.Ytnjomlcenolkdaa
open Go.RowKit Go.Cv
set_option maxRecDepth 100000
theorem makeDone_any (w : World) (cs : Array Value) :
    Calls Try.prog 28 #[.agg cs] w fun e w' => ∃ b, e = .returned (.pointer (some ⟨b, 0, none⟩)) ∧ Below w.heap.size w w' := by
  go_enter Try.func28, Try.ntmps28
  go_wp2_with fail
  go_ret
  exact ⟨_, rfl, ((Below.refl _ w).alloc (Nat.le_refl _) _).alloc (by simp) _⟩
theorem marshalDone_any (p : Value) (w : World) :
    Calls Try.prog 29 #[p] w fun e w' => ∃ b, e = .returned (.tuple #[.slice (some ⟨b, 0, none⟩) 0 0, .nilIface]) ∧ Below w.heap.size w w' := by
  go_enter Try.func29, Try.ntmps29
  go_wp2_with fail
  go_ret2
  exact ⟨_, rfl, (Below.refl _ w).alloc (Nat.le_refl _) _⟩
theorem unmarshalDone_any (p v : Value) (w : World) :
    Calls Try.prog 30 #[p, v] w fun e w' => e = .returned .nilIface ∧ w = w' := by
  go_enter Try.func30, Try.ntmps30
  go_wp2_with fail
  go_ret
  exact ⟨rfl, rfl⟩
theorem doneWrite_any (w : World) (cs : Array Value) (hsz : cs.size = 25) :
    Calls Try.prog 14 #[.agg cs] w fun e w' => e = .returned (.tuple #[.string (S []), .bool true]) ∧ Below w.heap.size w w' := by
  have hi : (Try.prog.info? 33).map (·.size) = some cs.size := by rw [hsz]; kernel_rfl
  go_enter Try.func14, Try.ntmps14
  have hg := heap_alloc_new w (.cells cs 33)
  go_wp2_with (with_reducible refine wpList_load_row rfl 33 (.tmp 1) rfl w.heap.size (by with_unfolding_all rfl) 33 cs (0, 0) _ hg Try.underlying33 (by with_unfolding_all rfl) hi ?_)
  clear hi hg
  go_wp2_with fail
  refine (makeDone_any _ cs).mono ?_
  rintro e w1 ⟨b, rfl, hb1⟩
  go_wp2_with fail
  refine (marshalDone_any _ w1).mono ?_
  rintro e w2 ⟨b2, rfl, hb2⟩
  go_wp2_with fail
  refine (text_any _ _ _ [] rfl w2 (.inl rfl)).mono ?_
  rintro e w3 ⟨rfl, rfl⟩
  go_wp2_with fail
  go_ret2
  exact ⟨rfl, below_two (below_two ((Below.refl _ w).alloc (Nat.le_refl _) _) hb1) hb2⟩
theorem msgInfo : (Try.prog.info? 33).map (·.size) = some 25 := by kernel_rfl
def doneMsg : Array Value := #[.int .u8 14, .bool false, .int .u8 0, .int .u8 0, .int .u32 0, .string (S []), .string (S []), .string (S []), .slice none 0 0, .slice none 0 0, .slice none 0 0, .slice none 0 0, .slice none 0 0, .slice none 0 0, .int .u16 0, .int .u16 0, .string (S []), .string (S []), .string (S []), .int .i64 0, .int .u8 0, .int .u16 0, .string (S []), .string (S []), .slice none 0 0]
theorem dataDone_any (p : Value) (w : World) :
    Calls Try.prog 31 #[p] w fun e w' => e = .returned (.agg doneMsg) ∧ Below w.heap.size w w' := by
  go_enter Try.func31, Try.ntmps31
  go_wp2_with (with_reducible refine Held.store 33 ?_)
  refine held_store_new (cells := doneMsg) msgInfo rfl rfl rfl (by simp [doneMsg, Value.oneCell']) fun w1 hk hb _ => ?_
  go_wp2_with fail
  exact bodyPost_cell rfl rfl rfl hk Try.underlying33 msgInfo ⟨rfl, hb⟩
theorem doneRead_any (w : World) :
    Calls Try.prog 15 #[.string (S [])] w fun e w' => e = .returned (.tuple #[.agg doneMsg, .bool true]) ∧ Below w.heap.size w w' := by
  go_enter Try.func15, Try.ntmps15
  go_wp2_with fail
  refine upon_conv_sb 9 26 5 Try.underlying9 Try.underlying26 Try.underlying5 [] (by simp) ?_
  intro c w1 hown hb hlt
  have hk1 := ((Blk.new w 33 _).alloc _).keep hb
  have hb1 : Below w.heap.size w w1 := below_two (((Below.refl _ w).alloc (Nat.le_refl _) _).alloc (by simp) _) hb
  clear hown hb hlt
  go_wp2_with fail
  refine (unmarshalDone_any _ _ w1).mono ?_
  rintro e w2 ⟨rfl, rfl⟩
  go_wp2_with fail
  refine (dataDone_any _ w1).mono ?_
  rintro e w2 ⟨rfl, hb2⟩
  have hk2 := hk1.keep hb2
  go_wp2_with (with_reducible refine Held.store 33 ?_)
  refine held_store_row (cells := doneMsg) hk2 msgInfo rfl rfl rfl (by simp [doneMsg, Value.oneCell']) fun w3 hk hg _ => ?_
  go_wp2_with fail
  exact bodyPost_cell2 rfl rfl rfl hk Try.underlying33 msgInfo ⟨rfl, (below_two hb1 hb2).grown hg (below_two hb1 hb2).size (fun k hk' => by simp at hk'; omega)⟩
set_option maxHeartbeats 1000000 in
theorem done_row (w : World) :
    Calls Try.prog 6 #[] w fun e w' => e = .returned (.bool true) ∧ Below w.heap.size w w' := by
  go_enter Try.func6, Try.ntmps6
  go_wp2_with fail
  refine (doneWrite_any w _ rfl).mono ?_
  rintro e w1 ⟨rfl, hb1⟩
  go_wp2_with fail
  refine (doneRead_any w1).mono ?_
  rintro e w2 ⟨rfl, hb2⟩
  go_wp2_with (with_reducible refine Held.store 33 ?_)
  refine held_store_new (cells := doneMsg) msgInfo rfl rfl rfl (by simp [doneMsg, Value.oneCell']) fun w3 hk hb3 _ => ?_
  have he : (S []).toList.isEmpty = true := by rw [S_toList]; rfl
  go_wp2_with (with_reducible refine Held.loadg 33 ?_)
  refine held_loadg_row hk Try.underlying33 msgInfo rfl rfl ?_
  go_wp2_with fail
  refine (sameMessage0 w3 _ _ 14 false 0 0 0 [] [] [] none none 0 0 none none 0 0 none none 0 0 none none 0 0 none none 0 0 none none 0 0 0 0 [] [] [] 0 0 0 [] [] none none 0 0 rfl rfl rfl rfl rfl rfl rfl rfl rfl rfl rfl rfl rfl rfl rfl rfl rfl rfl rfl rfl rfl rfl rfl rfl rfl rfl rfl rfl rfl rfl rfl rfl rfl rfl rfl rfl rfl rfl rfl rfl rfl rfl rfl rfl rfl rfl rfl rfl rfl rfl).mono ?_
  rintro e w4 ⟨rfl, rfl⟩
  go_wp2_with fail
  go_ret
  exact ⟨rfl, below_two (below_two (below_two hb1 hb2) hb3) (((Below.refl _ w3).alloc (Nat.le_refl _) _).alloc (by simp) _)⟩
end Go.Proofs.Ytnjomlcenolkdaa
