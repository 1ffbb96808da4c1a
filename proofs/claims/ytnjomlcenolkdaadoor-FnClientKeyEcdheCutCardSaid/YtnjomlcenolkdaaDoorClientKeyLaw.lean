/- Walks: the laws of a client's key exchange. -/
import Derived.Test.YtnjomlcenolkdaaDoorClientKey
namespace Go.Proofs.YtnjomlcenolkdaaDoor
open Go.RowKit Go.Cv
set_option maxRecDepth 100000
set_option linter.unusedVariables false
theorem ckcut_big (l : List UInt8) (x : Int) (h1 : decide ((2147483647 : Int) < l.length) = true) (w : World) :
    Calls Tryd.prog 6 #[.string (S l), .int .i64 x] w fun e w' => e = .returned (.bool true) ∧ Below w.heap.size w w' := by
  have h3 : (S l).size = l.length := S_size l
  go_enter Tryd.func6, Tryd.ntmps6
  go_wp2_with fail
  go_ret
  exact ⟨rfl, Below.refl _ _⟩
theorem ckcut_none (x : Int) (w : World) :
    Calls Tryd.prog 6 #[.string (S []), .int .i64 x] w fun e w' => e = .returned (.bool true) ∧ Below w.heap.size w w' := by
  have h3 : (S []).size = 0 := S_size []
  go_enter Tryd.func6, Tryd.ntmps6
  go_wp2_with fail
  go_ret
  exact ⟨rfl, Below.refl _ _⟩
theorem ckcut_long (l : List UInt8) (x : Int) (h1 : decide ((2147483647 : Int) < l.length) = false) (h2 : 0 < l.length) (h4 : decide ((l.length : Int) < 256) = false) (w : World) :
    Calls Tryd.prog 6 #[.string (S l), .int .i64 x] w fun e w' => e = .returned (.bool true) ∧ Below w.heap.size w w' := by
  have h3 : (S l).size = l.length := S_size l
  go_enter Tryd.func6, Tryd.ntmps6
  go_wp2_with fail
  go_ret
  exact ⟨rfl, Below.refl _ _⟩
theorem ckcut_small (l : List UInt8) (x : Int) (h1 : decide ((2147483647 : Int) < l.length) = false) (h2 : 0 < l.length) (h4 : decide ((l.length : Int) < 256) = true) (h5 : decide (x < 1) = true) (w : World) :
    Calls Tryd.prog 6 #[.string (S l), .int .i64 x] w fun e w' => e = .returned (.bool true) ∧ Below w.heap.size w w' := by
  have h3 : (S l).size = l.length := S_size l
  go_enter Tryd.func6, Tryd.ntmps6
  go_wp2_with fail
  refine (vec_any 1 (by omega) l (by simp at h4; omega) w).mono ?_
  rintro e w1 ⟨rfl, hb1⟩
  go_wp2_with fail
  go_ret
  exact ⟨rfl, hb1⟩
theorem ckcut_over (l : List UInt8) (x : Int) (h1 : decide ((2147483647 : Int) < l.length) = false) (h2 : 0 < l.length) (h4 : decide ((l.length : Int) < 256) = true) (h5 : decide (x < 1) = false) (h6 : decide ((1 : Int) + l.length < x) = true) (w : World) :
    Calls Tryd.prog 6 #[.string (S l), .int .i64 x] w fun e w' => e = .returned (.bool true) ∧ Below w.heap.size w w' := by
  have h3 : (S l).size = l.length := S_size l
  have h7 : (S (be 1 l.length ++ l)).size = 1 + l.length := by rw [S_size, List.length_append, be_length]
  go_enter Tryd.func6, Tryd.ntmps6
  go_wp2_with fail
  refine (vec_any 1 (by omega) l (by simp at h4; omega) w).mono ?_
  rintro e w1 ⟨rfl, hb1⟩
  go_wp2_with fail
  go_ret
  exact ⟨rfl, hb1⟩
set_option maxHeartbeats 1000000 in
theorem ckcut_cut (l m k : List UInt8) (x : Nat) (h1 : decide ((2147483647 : Int) < l.length) = false) (h2 : 0 < l.length) (h4 : decide ((l.length : Int) < 256) = true) (hm : m = be 1 l.length ++ l) (hk : k = m.take (m.length - x)) (h5 : decide ((x : Int) < 1) = false) (h6 : decide ((m.length : Int) < x) = false)
    (ad : Addr) (w : World) (hg : w.cell? ⟨1, 0, none⟩ = some (.iface 118 (.pointer (some ad)))) :
    Calls Tryd.prog 6 #[.string (S l), .int .i64 x] w fun e w' => e = .returned (.bool true) ∧ Below w.heap.size w w' := by
  have h3 : (S l).size = l.length := S_size l
  have hml : m.length = 1 + l.length := by rw [hm, List.length_append, be_length]
  have h7 : (S m).size = m.length := S_size m
  have hh : m.getD 0 0 = UInt8.ofNat l.length := by rw [hm]; simp [be]
  have hq : (m.drop 1).take l.length = l := by rw [hm]; simp [be]
  have hkl : k.length = m.length - x := by rw [hk]; simp
  have hx := S_extract m 0 (m.length - x)
  simp only [List.drop_zero] at hx
  rw [← hk] at hx
  have i1 : (1 : Int) ≤ x := by simpa using h5
  have i2 : (x : Int) ≤ m.length := by simpa using h6
  have i3 : (1 : Int) ≤ l.length := by omega
  have i4 : (l.length : Int) < 256 := by simpa using h4
  have hkh : (2 : Int) ≤ k.length → k.getD 0 0 = UInt8.ofNat l.length := by
    intro h
    rw [hk, ← hh]
    have : 0 < m.length - x := by omega
    cases m with
    | nil => exact absurd hml (by simp; omega)
    | cons y m' =>
      cases hd : (y :: m').length - x with
      | zero => omega
      | succ d => simp
  have iA : (2 : Int) ≤ m.length := by omega
  have iB : (m.length : Int) ≤ 3000000000 := by omega
  have iC : (l.length : Int) = (m.length : Int) - 1 := by omega
  have iD : (k.length : Int) ≤ 3000000000 := by omega
  have iE : (k.length : Int) - 1 < l.length := by omega
  have iF : (0 : Int) ≤ (m.length : Int) - x := by omega
  have iG : (m.length : Int) - x ≤ m.length := by omega
  have iH : ((m.length : Int) - x).toNat = m.length - x := by omega
  have hw : wrap64 ((m.length : Int) - x) = (m.length : Int) - x := by unfold wrap64; omega
  have HV := Lib.hid (fun w => vec_any 1 (by omega) l (by omega) w)
  rw [← hm] at HV
  have HO := Lib.hid (fun w => clientKeyRead_ok4 m l.length iA iB i4 iC hh l hq rfl w)
  have HN := Lib.hid (fun w hg => clientKeyRead_no4 k l.length iD i4 iE hkh ad w hg)
  clear iA iB iC iD iE hh hq hkh hm hk hkl i1 i2 i3 i4 hml
  go_enter Tryd.func6, Tryd.ntmps6
  go_wp2_with fail
  refine (HV.out w).mono ?_
  rintro e w1 ⟨rfl, hb1⟩
  go_wp2_with fail
  refine (HO.out w1).mono ?_
  rintro e w2 ⟨rfl, hb2⟩
  have hb3 := below_two hb1 hb2
  go_wp2_with (with_reducible refine Held.store 34 ?_)
  refine held_store_new (cells := ckMsg [] l 4) msgInfo rfl rfl rfl (by simp [ckMsg, Value.oneCell']) fun w3 _ hb4 _ => ?_
  have hb5 := below_two hb3 hb4
  have hg3 := keep_of_below hb5 _ _ hg
  go_wp2_with fail
  refine (HN.out w3 hg3).mono ?_
  rintro e w4 ⟨rfl, hb6⟩
  have hb7 := below_two hb5 hb6
  go_wp2_with (with_reducible refine Held.store 34 ?_)
  refine held_store_new (cells := zeroMsg) msgInfo rfl rfl rfl (by simp [zeroMsg, Value.oneCell']) fun w5 _ hb8 _ => ?_
  go_wp2_with fail
  go_ret
  exact ⟨rfl, below_two hb7 hb8⟩
theorem ckcut_row (l : List UInt8) (x : Int) (hx : (Lit.int .i64 x).wf = true) (w : World) (ad : Addr) (hg : w.cell? ⟨1, 0, none⟩ = some (.iface 118 (.pointer (some ad)))) {p : Prop} (ad1 : Addr) (hg1 : p) :
    Calls Tryd.prog 6 #[.string (S l), .int .i64 x] w fun e w' => e = .returned (.bool true) ∧ Below w.heap.size w w' := by
  by_cases h1 : (2147483647 : Int) < l.length
  · exact ckcut_big l x (by simpa using h1) w
  have h1' : decide ((2147483647 : Int) < l.length) = false := by simpa using h1
  by_cases h2 : 0 < l.length
  · by_cases h4 : (l.length : Int) < 256
    · have h4' : decide ((l.length : Int) < 256) = true := by simpa using h4
      by_cases h5 : x < 1
      · exact ckcut_small l x h1' h2 h4' (by simpa using h5) w
      · have h5' : decide (x < 1) = false := by simpa using h5
        by_cases h6 : (1 : Int) + l.length < x
        · exact ckcut_over l x h1' h2 h4' h5' (by simpa using h6) w
        · obtain ⟨y, rfl⟩ : ∃ y : Nat, x = y := ⟨x.toNat, by omega⟩
          exact ckcut_cut l _ _ y h1' h2 h4' rfl rfl h5' (by rw [List.length_append, be_length]; simp; omega) ad w hg
    · exact ckcut_long l x h1' h2 (by simpa using h4) w
  · have : l = [] := List.eq_nil_of_length_eq_zero (by omega)
    subst this
    exact ckcut_none x w
end Go.Proofs.YtnjomlcenolkdaaDoor
