/- Walks: the law about the additional data of a record with a connection ID. -/
import Derived.Test.YtkcacppcendhmaaAcidSum
import Derived.Deep.RegionHeld3
namespace Go.Proofs.Ytkcacppcendhmaa
open Go.RowKit Go.Cv
set_option maxRecDepth 100000
set_option linter.unusedVariables false
theorem le_255' (n : Nat) (h : decide ((255 : Int) < n) = false) : n ≤ 255 := by
  have := of_decide_eq_false h; omega
theorem lt_16 (n : Nat) (h : decide ((65535 : Int) < (n : Int)) = false) : (n : Int) < 65536 := by
  have := of_decide_eq_false h; omega
theorem acid_out (ct maj mn ep sq cl : Nat) (cid : List UInt8) (x : Int) (h : decide ((2147483647 : Int) < cid.length) = true) (w : World) :
    Calls Try.prog 4 #[.agg (recRow ct maj mn ep sq cl cid), .int .i64 x] w fun e w' => e = .returned (.bool true) ∧ Below w.heap.size w w' := by
  have HC := Lib.hid (fun W => nofits_any ct maj mn ep sq cl cid W h)
  unfold recRow at *
  go_enter Try.func4, Try.ntmps4
  go_wp2_with fail
  refine (HC.out _).mono ?_
  rintro e w1 ⟨rfl, hb1⟩
  go_wp2_with fail
  go_ret
  exact ⟨rfl, below_two (below_alloc _ _) hb1⟩
theorem acid_neg (ct maj mn ep sq cl : Nat) (cid : List UInt8) (x : Int) (h : decide ((2147483647 : Int) < cid.length) = false) (h1 : decide (x < 0) = true) (w : World) :
    Calls Try.prog 4 #[.agg (recRow ct maj mn ep sq cl cid), .int .i64 x] w fun e w' => e = .returned (.bool true) ∧ Below w.heap.size w w' := by
  have HC := Lib.hid (fun W => fits_any ct maj mn ep sq cl cid W h)
  unfold recRow at *
  go_enter Try.func4, Try.ntmps4
  go_wp2_with fail
  refine (HC.out _).mono ?_
  rintro e w1 ⟨rfl, hb1⟩
  go_wp2_with fail
  go_ret
  exact ⟨rfl, below_two (below_alloc _ _) hb1⟩
theorem acid_more (ct maj mn ep sq cl : Nat) (cid : List UInt8) (x : Int) (h : decide ((2147483647 : Int) < cid.length) = false) (h1 : decide (x < 0) = false) (h2 : decide ((65535 : Int) < x) = true) (w : World) :
    Calls Try.prog 4 #[.agg (recRow ct maj mn ep sq cl cid), .int .i64 x] w fun e w' => e = .returned (.bool true) ∧ Below w.heap.size w w' := by
  have HC := Lib.hid (fun W => fits_any ct maj mn ep sq cl cid W h)
  unfold recRow at *
  go_enter Try.func4, Try.ntmps4
  go_wp2_with fail
  refine (HC.out _).mono ?_
  rintro e w1 ⟨rfl, hb1⟩
  go_wp2_with fail
  go_ret
  exact ⟨rfl, below_two (below_alloc _ _) hb1⟩
theorem acid_late (ct maj mn ep sq cl : Nat) (cid : List UInt8) (x : Int) (h : decide ((2147483647 : Int) < cid.length) = false) (h1 : decide (x < 0) = false) (h2 : decide ((65535 : Int) < x) = false) (h5 : decide ((281474976710655 : Int) < sq) = true) (w : World) :
    Calls Try.prog 4 #[.agg (recRow ct maj mn ep sq cl cid), .int .i64 x] w fun e w' => e = .returned (.bool true) ∧ Below w.heap.size w w' := by
  have HC := Lib.hid (fun W => fits_any ct maj mn ep sq cl cid W h)
  unfold recRow at *
  go_enter Try.func4, Try.ntmps4
  go_wp2_with fail
  refine (HC.out _).mono ?_
  rintro e w1 ⟨rfl, hb1⟩
  have hk1 := (Blk.new w 27 #[.int .u8 (ct : Int), .int .u8 (maj : Int), .int .u8 (mn : Int), .int .u16 (ep : Int), .int .u64 (sq : Int), .int .u16 (cl : Int), .string (S cid)]).keep hb1
  have c4 := hk1.cell 4
  have c6 := hk1.cell 6
  simp at c4 c6
  clear hk1
  go_wp2_with fail
  go_ret
  exact ⟨rfl, below_two (below_alloc _ _) hb1⟩
theorem acid_long (ct maj mn ep sq cl : Nat) (cid : List UInt8) (x : Int) (h : decide ((2147483647 : Int) < cid.length) = false) (h1 : decide (x < 0) = false) (h2 : decide ((65535 : Int) < x) = false) (h5 : decide ((281474976710655 : Int) < sq) = false) (h6 : decide ((255 : Int) < cid.length) = true) (w : World) :
    Calls Try.prog 4 #[.agg (recRow ct maj mn ep sq cl cid), .int .i64 x] w fun e w' => e = .returned (.bool true) ∧ Below w.heap.size w w' := by
  have z3 : (S cid).size = cid.length := S_size cid
  have HC := Lib.hid (fun W => fits_any ct maj mn ep sq cl cid W h)
  unfold recRow at *
  go_enter Try.func4, Try.ntmps4
  go_wp2_with fail
  refine (HC.out _).mono ?_
  rintro e w1 ⟨rfl, hb1⟩
  have hk1 := (Blk.new w 27 #[.int .u8 (ct : Int), .int .u8 (maj : Int), .int .u8 (mn : Int), .int .u16 (ep : Int), .int .u64 (sq : Int), .int .u16 (cl : Int), .string (S cid)]).keep hb1
  have c4 := hk1.cell 4
  have c6 := hk1.cell 6
  simp at c4 c6
  clear hk1
  go_wp2_with fail
  go_ret
  exact ⟨rfl, below_two (below_alloc _ _) hb1⟩
set_option maxHeartbeats 2000000 in
theorem acid_in (ct maj mn ep sq cl : Nat) (cid : List UInt8) (m : Nat) (h : decide ((2147483647 : Int) < cid.length) = false) (h1 : decide ((m : Int) < 0) = false) (h2 : decide ((65535 : Int) < (m : Int)) = false) (h5 : decide ((281474976710655 : Int) < sq) = false) (h6 : decide ((255 : Int) < cid.length) = false)
    (hn : cid.length ≤ 255) (hmaj : (maj : Int) < 256) (hmn : (mn : Int) < 256) (hep : (ep : Int) < 65536) (hm : (m : Int) < 65536) (w : World) :
    Calls Try.prog 4 #[.agg (recRow ct maj mn ep sq cl cid), .int .i64 m] w fun e w' => e = .returned (.bool true) ∧ Below w.heap.size w w' := by
  have z3 : (S cid).size = cid.length := S_size cid
  have HC := Lib.hid (fun W => fits_any ct maj mn ep sq cl cid W h)
  have HD := Lib.hid (fun W => acidImpl_any 25 maj mn ep sq cl cid m hn hmaj hmn hep hm W)
  have HE := Lib.hid (fun W => acidSum_any 25 maj mn ep sq cl cid m hn hmaj hmn hep hm W)
  clear hn hmaj hmn hep hm
  unfold recRow at *
  go_enter Try.func4, Try.ntmps4
  go_wp2_with fail
  refine (HC.out _).mono ?_
  rintro e w1 ⟨rfl, hb1⟩
  have hk1 := (Blk.new w 27 #[.int .u8 (ct : Int), .int .u8 (maj : Int), .int .u8 (mn : Int), .int .u16 (ep : Int), .int .u64 (sq : Int), .int .u16 (cl : Int), .string (S cid)]).keep hb1
  have c0 := hk1.cell 0
  have f0 := hk1.frozen 0
  have c4 := hk1.cell 4
  have c6 := hk1.cell 6
  simp at c0 c4 c6
  have hk2 := hk1.set_ 0 (.int .u8 25)
  have hb2 : Below w.heap.size w (w1.setCell ⟨w.heap.size, 0, none⟩ (.int .u8 25)) := (below_two (below_alloc _ _) hb1).setCell (p := ⟨w.heap.size, 0, none⟩) (Nat.le_refl _) _
  have HB := Lib.hid hb2
  have HBX : Hid (∀ w', Below (w1.setCell ⟨w.heap.size, 0, none⟩ (.int .u8 25)).heap.size (w1.setCell ⟨w.heap.size, 0, none⟩ (.int .u8 25)) w' → recCells w' w.heap.size 25 maj mn ep sq cl cid) := by
    intro w' hb
    exact recCells_of ((show Blk _ w.heap.size 27 (recRow 25 maj mn ep sq cl cid) by simpa [recRow] using hk2).keep hb)
  unfold recCells at *
  clear hk1 hb1 hk2 hb2
  go_wp2_with fail
  generalize w1.setCell ⟨w.heap.size, 0, none⟩ (.int .u8 25) = W at *
  go_region_held3 (fun w' => w'.cell? ⟨w.heap.size, 0, none⟩ = some (.int .u8 ((25 : Nat) : Int)) ∧ w'.cell? ⟨w.heap.size, 1, none⟩ = some (.int .u8 (maj : Int)) ∧ w'.cell? ⟨w.heap.size, 2, none⟩ = some (.int .u8 (mn : Int)) ∧ w'.cell? ⟨w.heap.size, 3, none⟩ = some (.int .u16 (ep : Int)) ∧ w'.cell? ⟨w.heap.size, 4, none⟩ = some (.int .u64 (sq : Int)) ∧ w'.cell? ⟨w.heap.size, 5, none⟩ = some (.int .u16 (cl : Int)) ∧ w'.cell? ⟨w.heap.size, 6, none⟩ = some (.string (S cid))) ((refine HBX.out _ ?_; first | ((repeat (first | assumption | exact Below.refl _ _ | refine Below.drew ?_ | refine Below.setCell ?_ (by first | omega | (simp; done) | (simp; omega)) _ | refine Below.alloc ?_ (by first | omega | (simp; done) | (simp; omega)) _)); done) | (refine below_two ?_ hb2; (repeat (first | assumption | exact Below.refl _ _ | refine Below.drew ?_ | refine Below.setCell ?_ (by first | omega | (simp; done) | (simp; omega)) _ | refine Below.alloc ?_ (by first | omega | (simp; done) | (simp; omega)) _)); done) | (refine below_two ?_ hb6; (repeat (first | assumption | exact Below.refl _ _ | refine Below.drew ?_ | refine Below.setCell ?_ (by first | omega | (simp; done) | (simp; omega)) _ | refine Below.alloc ?_ (by first | omega | (simp; done) | (simp; omega)) _)); done) | (refine below_two (below_two ?_ hb2) hb6; (repeat (first | assumption | exact Below.refl _ _ | refine Below.drew ?_ | refine Below.setCell ?_ (by first | omega | (simp; done) | (simp; omega)) _ | refine Below.alloc ?_ (by first | omega | (simp; done) | (simp; omega)) _)); done) | (refine below_two (below_two ?_ hb6) hb2; (repeat (first | assumption | exact Below.refl _ _ | refine Below.drew ?_ | refine Below.setCell ?_ (by first | omega | (simp; done) | (simp; omega)) _ | refine Below.alloc ?_ (by first | omega | (simp; done) | (simp; omega)) _)); done))) (first
    | (go_at_call 8; refine (HD.out _).mono ?_; rintro e w2 ⟨rfl, hb2⟩)
    | (go_at_call 9; refine (HE.out _).mono ?_; rintro e w6 ⟨rfl, hb6⟩))
  go_wp2_with fail
  go_ret
  exact ⟨rfl, below_two HB.out (below_two (below_two (below_drew W) hb2) hb6)⟩
theorem acid_law (ct maj mn ep sq cl : Nat) (cid : List UInt8) (x : Int) (hmaj : (maj : Int) < 256) (hmn : (mn : Int) < 256) (hep : (ep : Int) < 65536) (w : World) :
    Calls Try.prog 4 #[.agg (recRow ct maj mn ep sq cl cid), .int .i64 x] w fun e w' => e = .returned (.bool true) ∧ Below w.heap.size w w' := by
  cases h : decide ((2147483647 : Int) < cid.length)
  · cases h1 : decide (x < 0)
    · cases h2 : decide ((65535 : Int) < x)
      · cases h5 : decide ((281474976710655 : Int) < sq)
        · cases h6 : decide ((255 : Int) < cid.length)
          · obtain ⟨m, rfl⟩ := Int.eq_ofNat_of_zero_le (show 0 ≤ x from Int.not_lt.mp (of_decide_eq_false h1))
            exact acid_in ct maj mn ep sq cl cid m h h1 h2 h5 h6 (le_255' _ h6) hmaj hmn hep (lt_16 _ h2) w
          · exact acid_long ct maj mn ep sq cl cid x h h1 h2 h5 h6 w
        · exact acid_late ct maj mn ep sq cl cid x h h1 h2 h5 w
      · exact acid_more ct maj mn ep sq cl cid x h h1 h2 w
    · exact acid_neg ct maj mn ep sq cl cid x h h1 w
  · exact acid_out ct maj mn ep sq cl cid x h w
theorem acid_row (cs : Array Value) (hk : cs.size = 7) (x0 : Int) (e0 : cs[0]? = some (.int .u8 x0)) (w0 : (Lit.int .u8 x0).wf = true) (x1 : Int) (e1 : cs[1]? = some (.int .u8 x1)) (w1 : (Lit.int .u8 x1).wf = true) (x2 : Int) (e2 : cs[2]? = some (.int .u8 x2)) (w2 : (Lit.int .u8 x2).wf = true) (x3 : Int) (e3 : cs[3]? = some (.int .u16 x3)) (w3 : (Lit.int .u16 x3).wf = true)
    (x4 : Int) (e4 : cs[4]? = some (.int .u64 x4)) (w4 : (Lit.int .u64 x4).wf = true) (x5 : Int) (e5 : cs[5]? = some (.int .u16 x5)) (w5 : (Lit.int .u16 x5).wf = true) (l6 : List UInt8) (e6 : cs[6]? = some (.string (S l6))) (x : Int) (wx : (Lit.int .i64 x).wf = true) (w : World) :
    Calls Try.prog 4 #[.agg cs, .int .i64 x] w fun e w' => e = .returned (.bool true) ∧ Below w.heap.size w w' := by
  obtain ⟨ct, rfl, _⟩ := nat_u8 w0
  obtain ⟨maj, rfl, hmaj⟩ := nat_u8 w1
  obtain ⟨mn, rfl, hmn⟩ := nat_u8 w2
  obtain ⟨ep, rfl, hep⟩ := nat_u16 w3
  obtain ⟨sq, rfl, _⟩ := nat_u64 w4
  obtain ⟨cl, rfl, _⟩ := nat_u16 w5
  have hcs : cs = recRow ct maj mn ep sq cl l6 := by
    apply Array.ext_getElem?
    intro i
    match i with
    | 0 => exact e0
    | 1 => exact e1
    | 2 => exact e2
    | 3 => exact e3
    | 4 => exact e4
    | 5 => exact e5
    | 6 => exact e6
    | i + 7 =>
      rw [Array.getElem?_eq_none (by omega), Array.getElem?_eq_none (by simp [recRow])]
  rw [hcs]
  exact acid_law ct maj mn ep sq cl l6 x hmaj hmn hep w
end Go.Proofs.Ytkcacppcendhmaa
