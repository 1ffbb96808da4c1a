/- Walks: the library's authenticated record cipher is made over the stand-in. -/
import Derived.Test.YtpedkkmoplbdhaaDoorAoA
import Derived.Test.YtpedkkmoplbdhaaDoorHdw
namespace Go.Proofs.YtpedkkmoplbdhaaDoor
open Go.RowKit Go.Cv
set_option maxRecDepth 100000
set_option linter.unusedVariables false
def aeRow (key : List UInt8) (T : Nat) (A B : Option Addr) (n c d : Nat) : Array Value := #[.iface 101 (.agg #[.string (S key), .int .i64 12, .int .i64 (T : Nat)]), .iface 101 (.agg #[.string (S key), .int .i64 12, .int .i64 (T : Nat)]), .slice A n c, .slice B n d, .int .i64 12, .int .i64 (T : Nat)]
theorem newAe0 (key : List UInt8) (T : Nat) (A B : Option Addr) (n c d : Nat) (w : World) :
    Calls Tryd.prog 92 #[.iface 101 (.agg #[.string (S key), .int .i64 12, .int .i64 (T : Nat)]), .slice A n c, .iface 101 (.agg #[.string (S key), .int .i64 12, .int .i64 (T : Nat)]), .slice B n d, .int .i64 12, .int .i64 (T : Nat)] w fun e w' => e = .returned (.pointer (some ⟨w.heap.size, 0, none⟩)) ∧ Blk w' w.heap.size 166 (aeRow key T A B n c d) ∧ Below w.heap.size w w' := by
  go_enter Tryd.func92, Tryd.ntmps92
  go_wp2_with fail
  go_ret
  exact ⟨rfl, Blk.new _ _ _, below_alloc _ _⟩
theorem newAe1 (key : List UInt8) (T : Nat) (A B : Option Addr) (n c d : Nat) (w : World) :
    Calls Tryd.prog 68 #[.iface 101 (.agg #[.string (S key), .int .i64 12, .int .i64 (T : Nat)]), .slice A n c, .iface 101 (.agg #[.string (S key), .int .i64 12, .int .i64 (T : Nat)]), .slice B n d, .int .i64 12, .int .i64 (T : Nat)] w fun e w' => ∃ g, e = .returned (.agg #[.pointer (some ⟨g, 0, none⟩)]) ∧ w.heap.size ≤ g ∧ Blk w' g 166 (aeRow key T A B n c d) ∧ Below w.heap.size w w' := by
  go_enter Tryd.func68, Tryd.ntmps68
  go_wp2_with fail
  have hz := Blk.new w 84 #[.pointer none]
  have hb0 := below_alloc w (.cells #[.pointer none] 84)
  generalize (World.alloc w _) = w0 at *
  refine (newAe0 key T A B n c d w0).mono ?_
  rintro e w1 ⟨rfl, hk, hb1⟩
  have hz1 := hz.keep hb1
  have z0 := hz1.cell 0
  have f0 := hz1.frozen 0
  simp at z0
  have hne : ¬ w0.heap.size = w.heap.size := by have := hz.lt; omega
  have HK := Lib.hid hk
  have HLE : Hid (w.heap.size ≤ w0.heap.size) := Lib.hid hb0.size
  have HZ := Lib.hid hz1
  have HB := Lib.hid (below_two hb0 hb1)
  clear hk hz1 hb1 hz hb0
  go_wp2_with fail
  have hk2 : Blk (w1.setCell ⟨w.heap.size, 0, none⟩ (.pointer (some ⟨w0.heap.size, 0, none⟩))) w.heap.size 84 #[.pointer (some ⟨w0.heap.size, 0, none⟩)] := by simpa using HZ.out.set_ 0 (.pointer (some ⟨w0.heap.size, 0, none⟩))
  refine bodyPost_cell rfl rfl rfl hk2 Tryd.underlying84 (by kernel_rfl) ⟨w0.heap.size, rfl, HLE.out, HK.out.tch (Tch.set _ _ _ _) (by simpa using hne), HB.out.setCell (p := ⟨w.heap.size, 0, none⟩) (Nat.le_refl _) _⟩
set_option maxHeartbeats 1000000 in
theorem newAe (key iv : List UInt8) (T n : Nat) (hiv : iv.length = n) (hn : n ≤ 1000) (w : World) :
    Calls Tryd.prog 39 #[.string (S key), .string (S iv), .int .i64 (T : Nat)] w fun e w' => ∃ g A B c d, e = .returned (.agg #[.pointer (some ⟨g, 0, none⟩)]) ∧ Blk w' g 166 (aeRow key T A B n c d) ∧ Rd w' A (vs iv) ∧ Rd w' B (vs iv) ∧ (n ≤ c ∧ n ≤ d) ∧ Below w.heap.size w w' := by
  have HI := Lib.hid (And.intro hiv hn)
  clear hiv hn
  go_enter Tryd.func39, Tryd.ntmps39
  go_wp2_with fail
  have hz := (Blk.new w 84 #[.pointer none]).alloc (.cells #[.string (S key), .int .i64 12, .int .i64 (T : Nat)] 101)
  have hk0 := Blk.new (w.alloc (.cells #[.pointer none] 84)) 101 #[.string (S key), .int .i64 12, .int .i64 (T : Nat)]
  rw [World.size_alloc] at hk0
  have hb0 := below_two (below_alloc w (.cells #[.pointer none] 84)) (below_alloc _ (.cells #[.string (S key), .int .i64 12, .int .i64 (T : Nat)] 101))
  generalize (World.alloc (World.alloc w _) _) = w0 at *
  obtain ⟨x, hx⟩ : ∃ x, w.heap.size = x := ⟨_, rfl⟩
  rw [hx] at hz hk0 hb0 ⊢
  have HX := Lib.hid hx
  have HB0 := Lib.hid hb0
  have HK0 := Lib.hid hk0
  have HZ0 := Lib.hid hz
  clear hb0 hk0 hz hx
  refine upon_conv_sb 9 51 5 Tryd.underlying9 Tryd.underlying51 Tryd.underlying5 iv (by rw [HI.out.1]; have := HI.out.2; simp only [maxLen]; omega) ?_
  intro c1 w1 hO1 hb1 _
  rw [HI.out.1] at hO1 ⊢
  have hx1 : x ≤ w0.heap.size := Nat.le_of_lt HZ0.out.lt
  have HC1 : Hid (n ≤ c1) := Lib.hid hO1.2.1
  have HO1 := Lib.hid hO1.rd
  have HB1 := Lib.hid (HB0.out.trans (hb1.mono hx1))
  have HZ1 := Lib.hid (HZ0.out.keep hb1)
  have hk1 := HK0.out.keep hb1
  have k0 := (hk1.cell 0).trans (rfl : _ = some (Value.string (S key)))
  have k1 := (hk1.cell 1).trans (rfl : _ = some (Value.int .i64 12))
  have k2 := (hk1.cell 2).trans (rfl : _ = some (Value.int .i64 (T : Nat)))
  clear hO1 hb1 hk1 hx1
  go_wp2_with fail
  refine upon_conv_sb 9 51 5 Tryd.underlying9 Tryd.underlying51 Tryd.underlying5 iv (by rw [HI.out.1]; have := HI.out.2; simp only [maxLen]; omega) ?_
  intro c2 w2 hO2 hb2 _
  rw [HI.out.1] at hO2 ⊢
  have hx2 : x ≤ w1.heap.size := Nat.le_of_lt HZ1.out.lt
  have HC2 : Hid (n ≤ c2) := Lib.hid hO2.2.1
  have HO2 := Lib.hid (And.intro (HO1.out.keep hb2) hO2.rd)
  have HB2 := Lib.hid (HB1.out.trans (hb2.mono hx2))
  have HZ2 := Lib.hid (HZ1.out.keep hb2)
  clear hO2 hb2 k0 k1 k2 hx2
  go_wp2_with fail
  refine (newAe1 key T _ _ n _ _ w2).mono ?_
  rintro e w3 ⟨g, rfl, hge, hk3, hb3⟩
  have hx3 : x ≤ w2.heap.size := Nat.le_of_lt HZ2.out.lt
  have hz3 := HZ2.out.keep hb3
  have z0 := hz3.cell 0
  have f0 := hz3.frozen 0
  simp at z0
  have hgx : ¬ g = x := by have := HZ2.out.lt; omega
  have HK3 := Lib.hid (And.intro hk3 (And.intro (HO2.out.1.keep hb3) (HO2.out.2.keep hb3)))
  have HB3 := Lib.hid (HB2.out.trans (hb3.mono hx3))
  have HZ3 := Lib.hid hz3
  have HGX := Lib.hid hgx
  have hxw : x < w0.heap.size ∧ x < w1.heap.size := ⟨HZ0.out.lt, HZ1.out.lt⟩
  have HXW := Lib.hid hxw
  clear hk3 hb3 hz3 hx3 hge hgx hxw
  go_wp2_with fail
  have hk4 : Blk (w3.setCell ⟨x, 0, none⟩ (.pointer (some ⟨g, 0, none⟩))) x 84 #[.pointer (some ⟨g, 0, none⟩)] := by simpa using HZ3.out.set_ 0 (.pointer (some ⟨g, 0, none⟩))
  have T4 := Tch.set w3 x 0 (.pointer (some ⟨g, 0, none⟩))
  refine bodyPost_cell rfl rfl rfl hk4 Tryd.underlying84 (by kernel_rfl) ⟨g, _, _, c1, c2, rfl, HK3.out.1.tch T4 (by simpa using HGX.out), HK3.out.2.1.tch T4 (by have := HXW.out.1; simp; omega), HK3.out.2.2.tch T4 (by have := HXW.out.2; simp; omega), ⟨HC1.out, HC2.out⟩, ?_⟩
  rw [HX.out]
  exact HB3.out.setCell (p := ⟨x, 0, none⟩) (Nat.le_refl _) _
end Go.Proofs.YtpedkkmoplbdhaaDoor
