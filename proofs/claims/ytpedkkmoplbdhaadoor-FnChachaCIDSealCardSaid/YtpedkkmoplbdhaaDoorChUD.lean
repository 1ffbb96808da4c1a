/- Walks: the header that the law makes (D). -/
import Derived.Test.YtpedkkmoplbdhaaDoorChT
import Derived.Deep.RegionLaw
namespace Go.Proofs.YtpedkkmoplbdhaaDoor
open Go.RowKit Go.Cv
set_option maxRecDepth 100000
set_option linter.unusedVariables false
theorem below_undrew'D {B : Nat} {w w2 : World} (h : Below B w w2.drew) : Below B w w2 := ⟨h.os, h.tape, h.output, h.size, h.block⟩
set_option maxHeartbeats 16000000 in
theorem named12_ok (ct maj mn ep sq cl n : Nat) (cid : List UInt8) (hn : cid.length = n) (t1 : decide ((0 : Int) < n) = true) (t1' : 0 < n) (t2 : decide ((n : Int) < 256) = true) (t2' : n < 256) (t3 : decide ((sq : Int) ≤ 281474976710655) = true) (t3' : sq ≤ 281474976710655) (w : World) :
    Calls Tryd.prog 8 #[.agg (recRow ct maj mn ep sq cl cid)] w fun e w' => e = .returned (.tuple #[.agg (recRow 25 254 253 ep sq 0 cid), .bool true]) ∧ Below w.heap.size w w' := by
  have hz : (S cid).size = n := by rw [S_size, hn]
  clear hn
  go_enter Tryd.func8, Tryd.ntmps8
  unfold recRow at *
  go_wp2_with fail
  have hk : Blk ((w.alloc (.cells #[.int .u8 25, .int .u8 254, .int .u8 253, .int .u16 (ep : Int), .int .u64 (sq : Int), .int .u16 0, .string (S cid)] 25)).alloc (.cells #[.int .u8 0, .int .u8 0, .int .u8 0, .int .u16 0, .int .u64 0, .int .u16 0, .string (.mk #[])] 25)) w.heap.size 25 (recRow 25 254 253 ep sq 0 cid) := (Blk.new w 25 #[.int .u8 25, .int .u8 254, .int .u8 253, .int .u16 (ep : Int), .int .u64 (sq : Int), .int .u16 0, .string (S cid)]).alloc _
  have hz0 : Blk ((w.alloc (.cells #[.int .u8 25, .int .u8 254, .int .u8 253, .int .u16 (ep : Int), .int .u64 (sq : Int), .int .u16 0, .string (S cid)] 25)).alloc (.cells #[.int .u8 0, .int .u8 0, .int .u8 0, .int .u16 0, .int .u64 0, .int .u16 0, .string (.mk #[])] 25)) (w.heap.size + 1) 25 #[.int .u8 0, .int .u8 0, .int .u8 0, .int .u16 0, .int .u64 0, .int .u16 0, .string (.mk #[])] := by
    have h := Blk.new (w.alloc (.cells #[.int .u8 25, .int .u8 254, .int .u8 253, .int .u16 (ep : Int), .int .u64 (sq : Int), .int .u16 0, .string (S cid)] 25)) 25 #[.int .u8 0, .int .u8 0, .int .u8 0, .int .u16 0, .int .u64 0, .int .u16 0, .string (.mk #[])]
    rw [World.size_alloc] at h
    exact h
  have hb : Below w.heap.size w ((w.alloc (.cells #[.int .u8 25, .int .u8 254, .int .u8 253, .int .u16 (ep : Int), .int .u64 (sq : Int), .int .u16 0, .string (S cid)] 25)).alloc (.cells #[.int .u8 0, .int .u8 0, .int .u8 0, .int .u16 0, .int .u64 0, .int .u16 0, .string (.mk #[])] 25)) := below_two (below_alloc _ _) (below_alloc _ _)
  generalize ((w.alloc (.cells #[.int .u8 25, .int .u8 254, .int .u8 253, .int .u16 (ep : Int), .int .u64 (sq : Int), .int .u16 0, .string (S cid)] 25)).alloc (.cells #[.int .u8 0, .int .u8 0, .int .u8 0, .int .u16 0, .int .u64 0, .int .u16 0, .string (.mk #[])] 25)) = W at *
  have HKD : Hid (Blk W.drew w.heap.size 25 (recRow 25 254 253 ep sq 0 cid)) := hk
  have HZD : Hid (Blk W.drew (w.heap.size + 1) 25 #[.int .u8 0, .int .u8 0, .int .u8 0, .int .u16 0, .int .u64 0, .int .u16 0, .string (.mk #[])]) := hz0
  have HBD : Hid (Below w.heap.size w W.drew) := Lib.hid hb.drew
  obtain ⟨c0, c1, c2, c3, c4, c5, c6⟩ := recCells_of HKD.out
  have c0 : W.cell? ⟨w.heap.size, 0, none⟩ = some (.int .u8 25) := c0
  have c1 : W.cell? ⟨w.heap.size, 1, none⟩ = some (.int .u8 254) := c1
  have c2 : W.cell? ⟨w.heap.size, 2, none⟩ = some (.int .u8 253) := c2
  have c5 : W.cell? ⟨w.heap.size, 5, none⟩ = some (.int .u16 0) := c5
  clear hk hz0 hb
  have c3 : W.cell? ⟨w.heap.size, 3, none⟩ = some (.int .u16 (ep : Int)) := c3
  have c4 : W.cell? ⟨w.heap.size, 4, none⟩ = some (.int .u64 (sq : Int)) := c4
  have c6 : W.cell? ⟨w.heap.size, 6, none⟩ = some (.string (S cid)) := c6
  obtain ⟨x, hx⟩ : ∃ x, w.heap.size = x := ⟨_, rfl⟩
  have HX := Lib.hid hx
  rw [hx] at c0 c1 c2 c3 c4 c5 c6 HKD HZD ⊢
  clear hx
  have fw0 : W.frozen? ⟨x + 1, 0, none⟩ = false := HZD.out.frozen 0
  have gw0 : W.cell? ⟨x + 1, 0, none⟩ = some (.int .u8 0) := (HZD.out.cell 0).trans rfl
  have fw1 : W.frozen? ⟨x + 1, 1, none⟩ = false := HZD.out.frozen 1
  have gw1 : W.cell? ⟨x + 1, 1, none⟩ = some (.int .u8 0) := (HZD.out.cell 1).trans rfl
  have fw2 : W.frozen? ⟨x + 1, 2, none⟩ = false := HZD.out.frozen 2
  have gw2 : W.cell? ⟨x + 1, 2, none⟩ = some (.int .u8 0) := (HZD.out.cell 2).trans rfl
  have fw3 : W.frozen? ⟨x + 1, 3, none⟩ = false := HZD.out.frozen 3
  have gw3 : W.cell? ⟨x + 1, 3, none⟩ = some (.int .u16 0) := (HZD.out.cell 3).trans rfl
  have fw4 : W.frozen? ⟨x + 1, 4, none⟩ = false := HZD.out.frozen 4
  have gw4 : W.cell? ⟨x + 1, 4, none⟩ = some (.int .u64 0) := (HZD.out.cell 4).trans rfl
  have fw5 : W.frozen? ⟨x + 1, 5, none⟩ = false := HZD.out.frozen 5
  have gw5 : W.cell? ⟨x + 1, 5, none⟩ = some (.int .u16 0) := (HZD.out.cell 5).trans rfl
  have fw6 : W.frozen? ⟨x + 1, 6, none⟩ = false := HZD.out.frozen 6
  have gw6 : W.cell? ⟨x + 1, 6, none⟩ = some (.string (.mk #[])) := (HZD.out.cell 6).trans rfl
  have hzw : Blk W (x + 1) 25 #[.int .u8 0, .int .u8 0, .int .u8 0, .int .u16 0, .int .u64 0, .int .u16 0, .string (.mk #[])] := HZD.out
  have hk2 : Blk (((((((W.setCell ⟨x + 1, 0, none⟩ (.int .u8 25)).setCell ⟨x + 1, 1, none⟩ (.int .u8 254)).setCell ⟨x + 1, 2, none⟩ (.int .u8 253)).setCell ⟨x + 1, 3, none⟩ (.int .u16 (ep : Int))).setCell ⟨x + 1, 4, none⟩ (.int .u64 (sq : Int))).setCell ⟨x + 1, 5, none⟩ (.int .u16 0)).setCell ⟨x + 1, 6, none⟩ (.string (S cid))) (x + 1) 25 (recRow 25 254 253 ep sq 0 cid) := by simpa [recRow] using (((((((hzw.set_ 0 (.int .u8 25)).set_ 1 (.int .u8 254)).set_ 2 (.int .u8 253)).set_ 3 (.int .u16 (ep : Int))).set_ 4 (.int .u64 (sq : Int))).set_ 5 (.int .u16 0)).set_ 6 (.string (S cid)))
  have hbx : Below x w W := below_undrew'D (by rw [← HX.out]; exact HBD.out)
  have hle : x ≤ x + 1 := Nat.le_succ _
  have hb2 : Below x w (((((((W.setCell ⟨x + 1, 0, none⟩ (.int .u8 25)).setCell ⟨x + 1, 1, none⟩ (.int .u8 254)).setCell ⟨x + 1, 2, none⟩ (.int .u8 253)).setCell ⟨x + 1, 3, none⟩ (.int .u16 (ep : Int))).setCell ⟨x + 1, 4, none⟩ (.int .u64 (sq : Int))).setCell ⟨x + 1, 5, none⟩ (.int .u16 0)).setCell ⟨x + 1, 6, none⟩ (.string (S cid))) := (((((((hbx.setCell (p := ⟨x + 1, 0, none⟩) hle _).setCell (p := ⟨x + 1, 1, none⟩) hle _).setCell (p := ⟨x + 1, 2, none⟩) hle _).setCell (p := ⟨x + 1, 3, none⟩) hle _).setCell (p := ⟨x + 1, 4, none⟩) hle _).setCell (p := ⟨x + 1, 5, none⟩) hle _).setCell (p := ⟨x + 1, 6, none⟩) hle _)
  have hk2 : Blk (World.drew (((((((W.setCell ⟨x + 1, 0, none⟩ (.int .u8 25)).setCell ⟨x + 1, 1, none⟩ (.int .u8 254)).setCell ⟨x + 1, 2, none⟩ (.int .u8 253)).setCell ⟨x + 1, 3, none⟩ (.int .u16 (ep : Int))).setCell ⟨x + 1, 4, none⟩ (.int .u64 (sq : Int))).setCell ⟨x + 1, 5, none⟩ (.int .u16 0)).setCell ⟨x + 1, 6, none⟩ (.string (S cid)))) (x + 1) 25 (recRow 25 254 253 ep sq 0 cid) := hk2.drew
  have hb2 : Below x w (World.drew (((((((W.setCell ⟨x + 1, 0, none⟩ (.int .u8 25)).setCell ⟨x + 1, 1, none⟩ (.int .u8 254)).setCell ⟨x + 1, 2, none⟩ (.int .u8 253)).setCell ⟨x + 1, 3, none⟩ (.int .u16 (ep : Int))).setCell ⟨x + 1, 4, none⟩ (.int .u64 (sq : Int))).setCell ⟨x + 1, 5, none⟩ (.int .u16 0)).setCell ⟨x + 1, 6, none⟩ (.string (S cid)))) := hb2.drew
  have HF := Lib.hid (And.intro hk2 hb2)
  clear hk2 hb2 hbx hle hzw
  go_region_law (fail)
  all_goals
    generalize World.drew (((((((W.setCell ⟨x + 1, 0, none⟩ (.int .u8 25)).setCell ⟨x + 1, 1, none⟩ (.int .u8 254)).setCell ⟨x + 1, 2, none⟩ (.int .u8 253)).setCell ⟨x + 1, 3, none⟩ (.int .u16 (ep : Int))).setCell ⟨x + 1, 4, none⟩ (.int .u64 (sq : Int))).setCell ⟨x + 1, 5, none⟩ (.int .u16 0)).setCell ⟨x + 1, 6, none⟩ (.string (S cid))) = w9 at *
    go_wp2_with fail
    refine bodyPost_cell2 rfl rfl rfl HF.out.1 Tryd.underlying25 recInfo ⟨rfl, ?_⟩
    rw [HX.out]; exact HF.out.2
end Go.Proofs.YtpedkkmoplbdhaaDoor
