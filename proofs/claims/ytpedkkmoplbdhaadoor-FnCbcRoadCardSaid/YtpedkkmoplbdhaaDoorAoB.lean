/- Walks: the header of a record without a connection ID, as the laws make it; whether a record is one that is sealed. -/
import Derived.Test.YtpedkkmoplbdhaaDoorAcidCall
import Derived.Test.YtpedkkmoplbdhaaDoorAcidSum
import Derived.Test.YtpedkkmoplbdhaaDoorTop
namespace Go.Proofs.YtpedkkmoplbdhaaDoor
open Go.RowKit Go.Cv
set_option maxRecDepth 100000
set_option linter.unusedVariables false
set_option maxHeartbeats 1000000 in
theorem bare12_any (ct maj mn ep sq cl : Nat) (cid : List UInt8) (w : World) :
    Calls Tryd.prog 16 #[.agg (recRow ct maj mn ep sq cl cid)] w fun e w' => e = .returned (.agg (recRow ct 254 253 ep sq 0 [])) ∧ Below w.heap.size w w' := by
  unfold recRow
  go_enter Tryd.func16, Tryd.ntmps16
  have hk := (Blk.new w 25 #[.int .u8 (ct : Int), .int .u8 254, .int .u8 253, .int .u16 (ep : Int), .int .u64 (sq : Int), .int .u16 0, .string (S [])]).alloc (.cells #[.int .u8 0, .int .u8 0, .int .u8 0, .int .u16 0, .int .u64 0, .int .u16 0, .string (.mk #[])] 25)
  have hz0 : Blk ((w.alloc (.cells #[.int .u8 (ct : Int), .int .u8 254, .int .u8 253, .int .u16 (ep : Int), .int .u64 (sq : Int), .int .u16 0, .string (S [])] 25)).alloc (.cells #[.int .u8 0, .int .u8 0, .int .u8 0, .int .u16 0, .int .u64 0, .int .u16 0, .string (.mk #[])] 25)) (w.heap.size + 1) 25 #[.int .u8 0, .int .u8 0, .int .u8 0, .int .u16 0, .int .u64 0, .int .u16 0, .string (.mk #[])] := by
    have h := Blk.new (w.alloc (.cells #[.int .u8 (ct : Int), .int .u8 254, .int .u8 253, .int .u16 (ep : Int), .int .u64 (sq : Int), .int .u16 0, .string (S [])] 25)) 25 #[.int .u8 0, .int .u8 0, .int .u8 0, .int .u16 0, .int .u64 0, .int .u16 0, .string (.mk #[])]
    rw [World.size_alloc] at h
    exact h
  have hb := below_two (below_alloc w (.cells #[.int .u8 (ct : Int), .int .u8 254, .int .u8 253, .int .u16 (ep : Int), .int .u64 (sq : Int), .int .u16 0, .string (S [])] 25)) (below_alloc _ (.cells #[.int .u8 0, .int .u8 0, .int .u8 0, .int .u16 0, .int .u64 0, .int .u16 0, .string (.mk #[])] 25))
  go_wp2_with (with_reducible refine Held.load 25 ?_)
  refine held_load_row (cs := #[.int .u8 (ct : Int), .int .u8 254, .int .u8 253, .int .u16 (ep : Int), .int .u64 (sq : Int), .int .u16 0, .string (S [])]) hk Tryd.underlying25 recInfo rfl ?_
  go_wp2_with (with_reducible refine Held.store 25 ?_)
  refine held_store_row (cells := recRow ct 254 253 ep sq 0 []) hz0 recInfo rfl rfl rfl (by simp [recRow, Value.oneCell']) fun w2 hk2 hg2 _ => ?_
  go_wp2_with fail
  refine bodyPost_cell rfl rfl rfl hk2 Tryd.underlying25 recInfo ⟨rfl, ?_⟩
  exact below_of_grown hb hg2 hb.size (by omega)
end Go.Proofs.YtpedkkmoplbdhaaDoor
