/- Walks: the law of a hello verify request. -/
import Derived.Test.YtnjomlcenolkdaaDoorVerify
import Derived.Test.YtnjomlcenolkdaaDoorSame
namespace Go.Proofs.YtnjomlcenolkdaaDoor
open Go.RowKit Go.Cv
set_option maxRecDepth 100000
set_option linter.unusedVariables false
theorem vrlaw_big (l : List UInt8) (h1 : decide ((2147483647 : Int) < l.length) = true) (w : World) :
    Calls Tryd.prog 4 #[.string (S l)] w fun e w' => e = .returned (.bool true) ∧ Below w.heap.size w w' := by
  have h3 : (S l).size = l.length := S_size l
  go_enter Tryd.func4, Tryd.ntmps4
  go_wp2_with fail
  go_ret
  exact ⟨rfl, Below.refl _ _⟩
theorem vrlaw_long (l : List UInt8) (h1 : decide ((2147483647 : Int) < l.length) = false) (h4 : decide ((l.length : Int) < 256) = false) (w : World) :
    Calls Tryd.prog 4 #[.string (S l)] w fun e w' => e = .returned (.bool true) ∧ Below w.heap.size w w' := by
  have h3 : (S l).size = l.length := S_size l
  go_enter Tryd.func4, Tryd.ntmps4
  go_wp2_with fail
  go_ret
  exact ⟨rfl, Below.refl _ _⟩
set_option maxHeartbeats 1000000 in
theorem vrlaw_ok (l k m : List UInt8) (h1 : decide ((2147483647 : Int) < l.length) = false) (h4 : decide ((l.length : Int) < 256) = true) (hk : k = be 1 l.length ++ l) (hm : m = 254 :: 253 :: k) (w : World) :
    Calls Tryd.prog 4 #[.string (S l)] w fun e w' => e = .returned (.bool true) ∧ Below w.heap.size w w' := by
  have h3 : (S l).size = l.length := S_size l
  have i4 : (l.length : Int) < 256 := by simpa using h4
  have hkl : k.length = 1 + l.length := by rw [hk, List.length_append, be_length]
  have hml : m.length = l.length + 3 := by rw [hm, List.length_cons, List.length_cons, hkl]; omega
  have HV := Lib.hid (fun w => vec_any 1 (by omega) l (by omega) w)
  rw [← hk] at HV
  have HA : Hid (∀ w : World, (Op.stringOp .add (.mk #[254, 253]) (S k)).run Tryd.prog w = .ok (.string (S m)) w) := fun w => run_add_eq [254, 253] k m (by rw [hm]; rfl) (by omega) w
  have HO := Lib.hid (fun w => verifyRead_ok l m l.length i4 (by omega) rfl (by rw [hm, hk]; simp [be]) w)
  have heq : ((S l).toList == (S l).toList) = true := by simp
  have hem : (S []).toList.isEmpty = true := by rw [S_toList]; rfl
  clear hk hm hkl hml i4
  have HA := HA.out
  go_enter Tryd.func4, Tryd.ntmps4
  go_wp2_with fail
  refine (HV.out w).mono ?_
  rintro e w1 ⟨rfl, hb1⟩
  go_wp2_with fail
  refine (HO.out w1).mono ?_
  rintro e w2 ⟨rfl, hb2⟩
  have hb3 := below_two hb1 hb2
  clear HO HV HA
  go_wp2_with (with_reducible refine Held.store 34 ?_)
  refine held_store_new (cells := vrMsg l) vrInfo rfl rfl rfl (by simp [vrMsg, Value.oneCell']) fun w3 hk hb4 _ => ?_
  go_wp2_with (with_reducible refine Held.loadg 34 ?_)
  refine held_loadg_row hk Tryd.underlying34 vrInfo rfl rfl ?_
  go_wp2_with fail
  refine (sameMessage0 w3 _ _ 3 false 254 253 0 [] l [] none none 0 0 none none 0 0 none none 0 0 none none 0 0 none none 0 0 none none 0 0 0 0 [] [] [] 0 0 0 [] [] none none 0 0 rfl rfl rfl rfl rfl rfl rfl rfl rfl rfl rfl rfl rfl rfl rfl rfl rfl rfl rfl rfl rfl rfl rfl rfl rfl rfl rfl rfl rfl rfl rfl rfl rfl rfl rfl rfl rfl rfl rfl rfl rfl rfl rfl rfl rfl rfl rfl rfl rfl rfl).mono ?_
  rintro e w4 ⟨rfl, rfl⟩
  go_wp2_with fail
  go_ret
  exact ⟨rfl, below_two (below_two hb3 hb4) (((Below.refl _ w3).alloc (Nat.le_refl _) _).alloc (by simp) _)⟩
theorem vrlaw_row (l : List UInt8) (w : World) {p : Prop} (ad : Addr) (hg : p) :
    Calls Tryd.prog 4 #[.string (S l)] w fun e w' => e = .returned (.bool true) ∧ Below w.heap.size w w' := by
  by_cases h1 : (2147483647 : Int) < l.length
  · exact vrlaw_big l (by simpa using h1) w
  have h1' : decide ((2147483647 : Int) < l.length) = false := by simpa using h1
  by_cases h4 : (l.length : Int) < 256
  · exact vrlaw_ok l _ _ h1' (by simpa using h4) rfl rfl w
  · exact vrlaw_long l h1' (by simpa using h4) w
end Go.Proofs.YtnjomlcenolkdaaDoor
