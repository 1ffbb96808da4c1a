/- Walks: the specification's sealed record; the header that the law makes. -/
import Derived.Test.YtpedkkmoplbdhaaDoorChS
namespace Go.Proofs.YtpedkkmoplbdhaaDoor
open Go.RowKit Go.Cv
set_option maxRecDepth 100000
set_option linter.unusedVariables false
set_option maxHeartbeats 2000000 in
theorem specCh (key iv cid plain : List UInt8) (ep sq cl n p : Nat) (hk : key.length ≤ 2000) (hiv : iv.length = 12) (hcid : cid.length = n) (hn : n ≤ 255) (hpl : plain.length = p) (hp : p ≤ 2000) (hep : ep < 65536) (w : World) :
    Calls Tryd.prog 11 #[.string (S key), .string (S iv), .agg (recRow 25 254 253 ep sq cl cid), .string (S plain)] w fun e w' => e = .returned (.string (S (aSeal key (chNon iv ep sq) plain (acid 254 253 ep sq cid p) 16))) ∧ Below w.heap.size w w' := by
  have hz : (S plain).size = p := by rw [S_size, hpl]
  have H1 : Hid (∀ W, Calls Tryd.prog 29 #[.string (S iv), .agg #[.int .u8 25, .int .u8 254, .int .u8 253, .int .u16 (ep : Int), .int .u64 (sq : Int), .int .u16 (cl : Int), .string (S cid)]] W fun e w' => e = .returned (.string (S (chNon iv ep sq))) ∧ Below W.heap.size W w') := Lib.hid (fun W => sNonce iv cid ep sq cl hiv hep W)
  have H2 : Hid (∀ W, Calls Tryd.prog 30 #[.agg #[.int .u8 25, .int .u8 254, .int .u8 253, .int .u16 (ep : Int), .int .u64 (sq : Int), .int .u16 (cl : Int), .string (S cid)], .int .i64 (p : Nat)] W fun e w' => e = .returned (.string (S (acid 254 253 ep sq cid p))) ∧ Below W.heap.size W w') := Lib.hid (fun W => sExtra cid ep sq cl p (by omega) hep (by omega) W)
  have H3 : Hid (∀ W, Calls Tryd.prog 28 #[.string (S key), .string (S (chNon iv ep sq)), .string (S plain), .string (S (acid 254 253 ep sq cid p)), .int .i64 16] W fun e w' => e = .returned (.string (S (aSeal key (chNon iv ep sq) plain (acid 254 253 ep sq cid p) 16))) ∧ Below W.heap.size W w') := Lib.hid (fun W => s_seal key (chNon iv ep sq) plain (acid 254 253 ep sq cid p) 16 (by omega) (by omega) (by omega) (by rw [chNon, xorL_length]; omega) (by omega) (by simp only [acid, List.length_append, List.length_replicate, be_length]; omega) W)
  have HBX : Hid (∀ w', Below (w.alloc (.cells (recRow 25 254 253 ep sq cl cid) 25)).heap.size (w.alloc (.cells (recRow 25 254 253 ep sq cl cid) 25)) w' → (w'.cell? ⟨w.heap.size, 0, none⟩ = some (.int .u8 25) ∧ w'.cell? ⟨w.heap.size, 1, none⟩ = some (.int .u8 254) ∧ w'.cell? ⟨w.heap.size, 2, none⟩ = some (.int .u8 253) ∧ w'.cell? ⟨w.heap.size, 3, none⟩ = some (.int .u16 (ep : Int)) ∧ w'.cell? ⟨w.heap.size, 4, none⟩ = some (.int .u64 (sq : Int)) ∧ w'.cell? ⟨w.heap.size, 5, none⟩ = some (.int .u16 (cl : Int)) ∧ w'.cell? ⟨w.heap.size, 6, none⟩ = some (.string (S cid)))) := Lib.hid (fun w' hb => recCells_of ((Blk.new w 25 (recRow 25 254 253 ep sq cl cid)).keep hb))
  obtain ⟨nc, hnc⟩ : ∃ x, chNon iv ep sq = x := ⟨_, rfl⟩
  obtain ⟨ad, had⟩ : ∃ x, acid 254 253 ep sq cid p = x := ⟨_, rfl⟩
  rw [hnc] at H1 H3 ⊢
  rw [had] at H2 H3 ⊢
  obtain ⟨sl, hsl⟩ : ∃ x, aSeal key nc plain ad 16 = x := ⟨_, rfl⟩
  rw [hsl] at H3 ⊢
  clear hk hiv hcid hn hpl hp hep hnc had hsl
  have hb0 := below_alloc w (.cells (recRow 25 254 253 ep sq cl cid) 25)
  have hc : (recRow 25 254 253 ep sq cl cid) = #[.int .u8 25, .int .u8 254, .int .u8 253, .int .u16 (ep : Int), .int .u64 (sq : Int), .int .u16 (cl : Int), .string (S cid)] := rfl
  rw [hc] at HBX hb0 ⊢
  clear hc
  go_enter Tryd.func11, Tryd.ntmps11
  go_wp2_with fail
  generalize (World.alloc w _) = W at *
  go_region_held_law (fun w' => w'.cell? ⟨w.heap.size, 0, none⟩ = some (.int .u8 25) ∧ w'.cell? ⟨w.heap.size, 1, none⟩ = some (.int .u8 254) ∧ w'.cell? ⟨w.heap.size, 2, none⟩ = some (.int .u8 253) ∧ w'.cell? ⟨w.heap.size, 3, none⟩ = some (.int .u16 (ep : Int)) ∧ w'.cell? ⟨w.heap.size, 4, none⟩ = some (.int .u64 (sq : Int)) ∧ w'.cell? ⟨w.heap.size, 5, none⟩ = some (.int .u16 (cl : Int)) ∧ w'.cell? ⟨w.heap.size, 6, none⟩ = some (.string (S cid))) ((refine HBX.out _ ?_; (repeat (first | exact Below.refl _ _ | refine below_two ?_ hb5 | refine below_two ?_ hb6 | refine below_two ?_ hb7 | refine Below.drew ?_)); done)) (first
    | (go_at_call 29; with_reducible refine (H1.out _).mono ?_; rintro e w5 ⟨rfl, hb5⟩)
    | (go_at_call 30; with_reducible refine (H2.out _).mono ?_; rintro e w6 ⟨rfl, hb6⟩)
    | (go_at_call 28; with_reducible refine (H3.out _).mono ?_; rintro e w7 ⟨rfl, hb7⟩))
  all_goals
    go_wp2_with fail
    go_ret
    exact ⟨rfl, below_two hb0 (by (repeat (first | exact Below.refl _ _ | refine below_two ?_ hb7 | refine below_two ?_ hb5 | refine below_two ?_ hb6 | refine Below.drew ?_)))⟩
end Go.Proofs.YtpedkkmoplbdhaaDoor
