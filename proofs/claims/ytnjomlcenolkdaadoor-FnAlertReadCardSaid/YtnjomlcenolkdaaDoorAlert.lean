/- Walks: an alert read. -/
import Derived.Test.YtnjomlcenolkdaaDoorOps2
import Derived.Test.YtnjomlcenolkdaaDoorRow
import Derived.Test.YtnjomlcenolkdaaDoorProg
import Derived.Deep.RegionHeld3
namespace Go.Proofs.YtnjomlcenolkdaaDoor
open Go.RowKit Go.Cv
set_option maxRecDepth 100000
set_option linter.unusedVariables false
theorem unmarshalAlert_ok (g : Nat) (x0 x1 : Value) (b o c : Nat) (p q : UInt8) (w : World) (hk : Blk w g 52 #[x0, x1]) (hr : Rd w (some ⟨b, o, none⟩) (vs [p, q])) (hne : g ≠ b) :
    Calls Tryd.prog 19 #[.pointer (some ⟨g, 0, none⟩), .slice (some ⟨b, o, none⟩) 2 c] w fun e w' =>
      e = .returned .nilIface ∧ Blk w' g 52 #[.int .u8 p.toNat, .int .u8 q.toNat] ∧ w.grownBy w' (some g) := by
  have h0 := hr.byte 0 (by simp)
  have h1 := hr.byte 1 (by simp)
  have c0 := hk.cell 0
  have c1 := hk.cell 1
  have f0 := hk.frozen 0
  have f1 := hk.frozen 1
  simp at h0 h1 c0 c1
  have hK := (hk.set_ 0 (.int .u8 p.toNat)).set_ 1 (.int .u8 q.toNat)
  have hG := grown_trans (grown_set w g 0 (.int .u8 p.toNat)) (grown_set _ g 1 (.int .u8 q.toNat))
  clear hk hr
  go_enter Tryd.func19, Tryd.ntmps19
  go_wp2_with fail
  go_ret
  exact ⟨rfl, by simpa using hK, hG⟩
theorem unmarshalAlert_no (g : Nat) (A : Option Addr) (n c : Nat) (hn : ((n : Int) == 2) = false) (ad : Addr) (w : World) (hg : w.cell? ⟨0, 0, none⟩ = some (.iface 118 (.pointer (some ad)))) :
    Calls Tryd.prog 19 #[.pointer (some ⟨g, 0, none⟩), .slice A n c] w fun e w' =>
      e = .returned (.iface 118 (.pointer (some ad))) ∧ w = w' := by
  have hn2 : ((n : Int) != 2) = true := by simpa using hn
  go_enter Tryd.func19, Tryd.ntmps19
  go_wp2_with fail
  go_ret
  exact ⟨rfl, rfl⟩
theorem alertRead_ok (p q : UInt8) (w : World) :
    Calls Tryd.prog 9 #[.string (S [p, q])] w fun e w' => e = .returned (.tuple #[.int .u8 p.toNat, .int .u8 q.toNat, .bool true]) ∧ Below w.heap.size w w' := by
  go_enter Tryd.func9, Tryd.ntmps9
  go_wp2_with fail
  refine upon_conv_sb 9 27 5 Tryd.underlying9 Tryd.underlying27 Tryd.underlying5 [p, q] (by simp [maxLen]) ?_
  intro c w1 hown hb hlt
  have hk := (Blk.new w 52 #[.int .u8 0, .int .u8 0]).keep hb
  have hr := hown.rd
  have hb1 : Below w.heap.size w w1 := below_two ((Below.refl _ w).alloc (Nat.le_refl _) _) hb
  simp only [World.size_alloc] at hr hlt
  clear hown hb
  go_wp2_with fail
  refine (unmarshalAlert_ok w.heap.size _ _ (w.heap.size + 1) 0 c p q w1 hk (by simpa using hr) (by omega)).mono ?_
  rintro e w2 ⟨rfl, hk2, hg2⟩
  have c0 := hk2.cell 0
  have c1 := hk2.cell 1
  simp at c0 c1
  have hb2 := below_of_grown hb1 hg2 hb1.size (Nat.le_refl _)
  clear hg2 hk hk2 hr hb1
  go_wp2_with fail
  go_quiet (fail)
  go_wp2_with fail
  go_ret3
  exact ⟨rfl, hb2.trans ⟨rfl, rfl, rfl, Nat.le_refl _, fun _ _ => rfl⟩⟩
theorem alertRead_no (l : List UInt8) (hl : Hid (l.length ≤ 2147483647)) (hn : ((l.length : Int) == 2) = false) (ad : Addr) (w : World) (hg : w.cell? ⟨0, 0, none⟩ = some (.iface 118 (.pointer (some ad)))) :
    Calls Tryd.prog 9 #[.string (S l)] w fun e w' => e = .returned (.tuple #[.int .u8 0, .int .u8 0, .bool false]) ∧ Below w.heap.size w w' := by
  go_enter Tryd.func9, Tryd.ntmps9
  go_wp2_with fail
  refine upon_conv_sb 9 27 5 Tryd.underlying9 Tryd.underlying27 Tryd.underlying5 l (by have := hl.out; simp only [maxLen]; omega) ?_
  intro c w1 hown hb hlt
  have hb1 : Below w.heap.size w w1 := below_two ((Below.refl _ w).alloc (Nat.le_refl _) _) hb
  have hg1 := keep_of_below hb1 _ _ hg
  simp only [World.size_alloc] at hlt
  clear hown hb
  go_wp2_with fail
  refine (unmarshalAlert_no _ _ l.length c hn ad w1 hg1).mono ?_
  rintro e w2 ⟨rfl, rfl⟩
  go_wp2_with fail
  go_ret3
  exact ⟨rfl, hb1⟩
theorem alert_big (l : List UInt8) (h1 : decide ((2147483647 : Int) < l.length) = true) (w : World) :
    Calls Tryd.prog 3 #[.string (S l)] w fun e w' => e = .returned (.bool true) ∧ Below w.heap.size w w' := by
  have h3 : (S l).size = l.length := S_size l
  go_enter Tryd.func3, Tryd.ntmps3
  go_wp2_with fail
  go_ret
  exact ⟨rfl, Below.refl _ _⟩
theorem alert_no (l : List UInt8) (h1 : decide ((2147483647 : Int) < l.length) = false) (hl : Hid (l.length ≤ 2147483647)) (hn : ((l.length : Int) == 2) = false) (ad : Addr) (w : World) (hg : w.cell? ⟨0, 0, none⟩ = some (.iface 118 (.pointer (some ad)))) :
    Calls Tryd.prog 3 #[.string (S l)] w fun e w' => e = .returned (.bool true) ∧ Below w.heap.size w w' := by
  have h3 : (S l).size = l.length := S_size l
  have hn2 : ((l.length : Int) != 2) = true := by simpa using hn
  go_enter Tryd.func3, Tryd.ntmps3
  go_wp2_with fail
  refine (alertRead_no l hl hn ad w hg).mono ?_
  rintro e w1 ⟨rfl, hb1⟩
  go_wp2_with fail
  go_ret
  exact ⟨rfl, hb1⟩
theorem alert_ok (p q : UInt8) (w : World) :
    Calls Tryd.prog 3 #[.string (S [p, q])] w fun e w' => e = .returned (.bool true) ∧ Below w.heap.size w w' := by
  have h3 : (S [p, q]).size = 2 := S_size _
  have i0 := fun w => run_index_S (P := Tryd.prog) w 9 Tryd.underlying9 [p, q] .i64 0 0 rfl (by simp)
  have i1 := fun w => run_index_S (P := Tryd.prog) w 9 Tryd.underlying9 [p, q] .i64 1 1 rfl (by simp)
  simp at i0 i1
  go_enter Tryd.func3, Tryd.ntmps3
  go_wp2_with fail
  refine (alertRead_ok p q w).mono ?_
  rintro e w1 ⟨rfl, hb1⟩
  go_wp2_with fail
  go_ret
  exact ⟨rfl, hb1⟩
theorem alert_row (l : List UInt8) (w : World) (ad : Addr) (hg : w.cell? ⟨0, 0, none⟩ = some (.iface 118 (.pointer (some ad)))) :
    Calls Tryd.prog 3 #[.string (S l)] w fun e w' => e = .returned (.bool true) ∧ Below w.heap.size w w' := by
  by_cases h1 : (2147483647 : Int) < l.length
  · exact alert_big l (decide_eq_true h1) w
  · by_cases h2 : l.length = 2
    · match l, h2 with
      | [p, q], _ => exact alert_ok p q w
    · exact alert_no l (decide_eq_false h1) (show l.length ≤ 2147483647 by omega) (by simpa using fun h => h2 (by omega)) ad w hg
end Go.Proofs.YtnjomlcenolkdaaDoor
