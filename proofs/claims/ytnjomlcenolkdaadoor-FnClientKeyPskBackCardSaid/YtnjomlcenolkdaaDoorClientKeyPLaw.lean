/- Walks: the law of a client's key exchange with an identity. -/
import Derived.Test.YtnjomlcenolkdaaDoorClientKeyP
import Derived.Test.YtnjomlcenolkdaaDoorSame
namespace Go.Proofs.YtnjomlcenolkdaaDoor
open Go.RowKit Go.Cv
set_option maxRecDepth 100000
set_option linter.unusedVariables false
theorem ckpsk_big (l : List UInt8) (h1 : decide ((2147483647 : Int) < l.length) = true) (w : World) :
    Calls Tryd.prog 7 #[.string (S l)] w fun e w' => e = .returned (.bool true) ∧ Below w.heap.size w w' := by
  have h3 : (S l).size = l.length := S_size l
  go_enter Tryd.func7, Tryd.ntmps7
  go_wp2_with fail
  go_ret
  exact ⟨rfl, Below.refl _ _⟩
theorem ckpsk_none (w : World) :
    Calls Tryd.prog 7 #[.string (S [])] w fun e w' => e = .returned (.bool true) ∧ Below w.heap.size w w' := by
  have h3 : (S []).size = 0 := S_size []
  go_enter Tryd.func7, Tryd.ntmps7
  go_wp2_with fail
  go_ret
  exact ⟨rfl, Below.refl _ _⟩
theorem ckpsk_long (l : List UInt8) (h1 : decide ((2147483647 : Int) < l.length) = false) (h2 : 0 < l.length) (h4 : decide ((l.length : Int) < 60000) = false) (w : World) :
    Calls Tryd.prog 7 #[.string (S l)] w fun e w' => e = .returned (.bool true) ∧ Below w.heap.size w w' := by
  have h3 : (S l).size = l.length := S_size l
  go_enter Tryd.func7, Tryd.ntmps7
  go_wp2_with fail
  go_ret
  exact ⟨rfl, Below.refl _ _⟩
set_option maxHeartbeats 1000000 in
theorem ckpsk_ok (l m : List UInt8) (h1 : decide ((2147483647 : Int) < l.length) = false) (h2 : 0 < l.length) (h4 : decide ((l.length : Int) < 60000) = true) (hm : m = be 2 l.length ++ l) (w : World) :
    Calls Tryd.prog 7 #[.string (S l)] w fun e w' => e = .returned (.bool true) ∧ Below w.heap.size w w' := by
  have h3 : (S l).size = l.length := S_size l
  have hml : m.length = 2 + l.length := by rw [hm, List.length_append, be_length]
  have hq : (m.drop 2).take l.length = l := by rw [hm]; simp [be]
  have i4 : (l.length : Int) < 60000 := by simpa using h4
  have hh0 : m.getD 0 0 = UInt8.ofNat (l.length / 256) := by rw [hm]; simp [be]
  have hh1 : m.getD 1 0 = UInt8.ofNat (l.length % 256) := by
    rw [hm]; simp [be]
    apply UInt8.toNat_inj.1
    simp
  have HV := Lib.hid (fun w => vec_any 2 (by omega) l (by omega) w)
  rw [← hm] at HV
  have HO := Lib.hid (fun w => clientKeyRead_ok2 m (l.length / 256) (l.length % 256) l.length (by omega) (by omega) (by omega) (by omega) (by omega) h2 (by omega) hh0 hh1 l hq rfl w)
  clear hh0 hh1 hq hm hml i4
  have heq : ((S l).toList == (S l).toList) = true := by simp
  have hem : (S []).toList.isEmpty = true := by rw [S_toList]; rfl
  go_enter Tryd.func7, Tryd.ntmps7
  go_wp2_with fail
  refine (HV.out w).mono ?_
  rintro e w1 ⟨rfl, hb1⟩
  go_wp2_with fail
  refine (HO.out w1).mono ?_
  rintro e w2 ⟨rfl, hb2⟩
  have hb3 := below_two hb1 hb2
  clear HO HV
  go_wp2_with (with_reducible refine Held.store 34 ?_)
  refine held_store_new (cells := ckMsg l [] 2) msgInfo rfl rfl rfl (by simp [ckMsg, Value.oneCell']) fun w3 hk hb4 _ => ?_
  go_wp2_with (with_reducible refine Held.loadg 34 ?_)
  refine held_loadg_row hk Tryd.underlying34 msgInfo rfl rfl ?_
  go_wp2_with fail
  refine (sameMessage0 w3 _ _ 16 false 0 0 0 [] [] [] none none 0 0 none none 0 0 none none 0 0 none none 0 0 none none 0 0 none none 0 0 0 0 [] l [] 2 0 0 [] [] none none 0 0 rfl rfl rfl rfl rfl rfl rfl rfl rfl rfl rfl rfl rfl rfl rfl rfl rfl rfl rfl rfl rfl rfl rfl rfl rfl rfl rfl rfl rfl rfl rfl rfl rfl rfl rfl rfl rfl rfl rfl rfl rfl rfl rfl rfl rfl rfl rfl rfl rfl rfl).mono ?_
  rintro e w4 ⟨rfl, rfl⟩
  go_wp2_with fail
  go_ret
  exact ⟨rfl, below_two (below_two hb3 hb4) (((Below.refl _ w3).alloc (Nat.le_refl _) _).alloc (by simp) _)⟩
theorem ckpsk_row (l : List UInt8) (w : World) {p q : Prop} (ad : Addr) (hg : p) (ad1 : Addr) (hg1 : q) :
    Calls Tryd.prog 7 #[.string (S l)] w fun e w' => e = .returned (.bool true) ∧ Below w.heap.size w w' := by
  by_cases h1 : (2147483647 : Int) < l.length
  · exact ckpsk_big l (by simpa using h1) w
  have h1' : decide ((2147483647 : Int) < l.length) = false := by simpa using h1
  by_cases h2 : 0 < l.length
  · by_cases h4 : (l.length : Int) < 60000
    · exact ckpsk_ok l _ h1' h2 (by simpa using h4) rfl w
    · exact ckpsk_long l h1' h2 (by simpa using h4) w
  · have : l = [] := List.eq_nil_of_length_eq_zero (by omega)
    subst this
    exact ckpsk_none w
end Go.Proofs.YtnjomlcenolkdaaDoor
