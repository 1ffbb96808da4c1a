/- Walks: a record without a connection ID, sealed in the specification. -/
import Derived.Test.YtpedkkmoplbdhaaDoorAoY
import Derived.Deep.RegionHeldLaw
namespace Go.Proofs.YtpedkkmoplbdhaaDoor
open Go.RowKit Go.Cv
set_option maxRecDepth 100000
set_option linter.unusedVariables false
set_option maxHeartbeats 2000000 in
theorem specAeSeal (key iv x plain : List UInt8) (ct ep sq cl p tag : Nat) (hk : key.length ≤ 2000) (hiv : iv.length = 4) (hx : x.length = 8) (hpl : plain.length = p) (hp : p ≤ 2000) (h1 : 1 ≤ tag) (h2 : tag ≤ 16) (hn : ((ct : Int) == 25) = false) (hn' : ¬ ct = 25) (hct : (ct : Int) < 256) (hep : (ep : Int) < 65536) (w : World) :
    Calls Tryd.prog 20 #[.string (S key), .string (S iv), .string (S x), .int .i64 (tag : Nat), .agg (recRow ct 254 253 ep sq cl []), .string (S plain)] w fun e w' => e = .returned (.string (S (x ++ aSeal key (iv ++ x) plain (addS ct 254 253 ep sq p) tag))) ∧ Below w.heap.size w w' := by
  have hz : (S plain).size = p := by rw [S_size, hpl]
  have H1 : Hid (∀ W, Calls Tryd.prog 42 #[.string (S iv), .string (S x)] W fun e w' => e = .returned (.string (S (iv ++ x))) ∧ W = w') := Lib.hid (fun W => sAeNonce iv x hiv (by omega) W)
  have H2 : Hid (∀ W, Calls Tryd.prog 30 #[.agg #[.int .u8 (ct : Int), .int .u8 254, .int .u8 253, .int .u16 (ep : Int), .int .u64 (sq : Int), .int .u16 (cl : Int), .string (S [])], .int .i64 (p : Nat)] W fun e w' => e = .returned (.string (S (addS ct 254 253 ep sq p))) ∧ Below W.heap.size W w') := Lib.hid (fun W => sExtraN [] ct 254 253 ep sq cl p hn hn' hct (by omega) (by omega) hep (by omega) W)
  have hla : (addS ct 254 253 ep sq p).length ≤ 100 := by simp [addS, be_length]
  have H3 : Hid (∀ W, Calls Tryd.prog 28 #[.string (S key), .string (S (iv ++ x)), .string (S plain), .string (S (addS ct 254 253 ep sq p)), .int .i64 (tag : Nat)] W fun e w' => e = .returned (.string (S (aSeal key (iv ++ x) plain (addS ct 254 253 ep sq p) tag))) ∧ Below W.heap.size W w') := Lib.hid (fun W => s_seal key (iv ++ x) plain (addS ct 254 253 ep sq p) tag h1 (by omega) (by omega) (by rw [List.length_append]; omega) (by omega) (by omega) W)
  have HBX : Hid (∀ w', Below (w.alloc (.cells (recRow ct 254 253 ep sq cl []) 25)).heap.size (w.alloc (.cells (recRow ct 254 253 ep sq cl []) 25)) w' → (w'.cell? ⟨w.heap.size, 0, none⟩ = some (.int .u8 (ct : Int)) ∧ w'.cell? ⟨w.heap.size, 1, none⟩ = some (.int .u8 254) ∧ w'.cell? ⟨w.heap.size, 2, none⟩ = some (.int .u8 253) ∧ w'.cell? ⟨w.heap.size, 3, none⟩ = some (.int .u16 (ep : Int)) ∧ w'.cell? ⟨w.heap.size, 4, none⟩ = some (.int .u64 (sq : Int)) ∧ w'.cell? ⟨w.heap.size, 5, none⟩ = some (.int .u16 (cl : Int)) ∧ w'.cell? ⟨w.heap.size, 6, none⟩ = some (.string (S [])))) := Lib.hid (fun w' hb => recCells_of ((Blk.new w 25 (recRow ct 254 253 ep sq cl [])).keep hb))
  have hls := aSeal_length key (iv ++ x) plain (addS ct 254 253 ep sq p) tag (by omega)
  obtain ⟨nc, hnc⟩ : ∃ y, iv ++ x = y := ⟨_, rfl⟩
  obtain ⟨ad, had⟩ : ∃ y, addS ct 254 253 ep sq p = y := ⟨_, rfl⟩
  rw [hnc] at H1 H3 hls ⊢
  rw [had] at H2 H3 hls ⊢
  obtain ⟨sl, hsl⟩ : ∃ y, aSeal key nc plain ad tag = y := ⟨_, rfl⟩
  rw [hsl] at H3 hls ⊢
  obtain ⟨out, hout⟩ : ∃ y, x ++ sl = y := ⟨_, rfl⟩
  have ha := fun w => run_add_eq (P := Tryd.prog) x sl out hout (by rw [← hout, List.length_append]; omega) w
  rw [hout]
  clear hk hiv hx hpl hp h1 h2 hn hn' hct hep hnc had hsl hla hls hout
  have hb0 := below_alloc w (.cells (recRow ct 254 253 ep sq cl []) 25)
  have hc : (recRow ct 254 253 ep sq cl []) = #[.int .u8 (ct : Int), .int .u8 254, .int .u8 253, .int .u16 (ep : Int), .int .u64 (sq : Int), .int .u16 (cl : Int), .string (S [])] := rfl
  rw [hc] at HBX hb0 ⊢
  clear hc
  go_enter Tryd.func20, Tryd.ntmps20
  go_wp2_with fail
  generalize (World.alloc w _) = W at *
  go_region_held_law (fun w' => w'.cell? ⟨w.heap.size, 0, none⟩ = some (.int .u8 (ct : Int)) ∧ w'.cell? ⟨w.heap.size, 1, none⟩ = some (.int .u8 254) ∧ w'.cell? ⟨w.heap.size, 2, none⟩ = some (.int .u8 253) ∧ w'.cell? ⟨w.heap.size, 3, none⟩ = some (.int .u16 (ep : Int)) ∧ w'.cell? ⟨w.heap.size, 4, none⟩ = some (.int .u64 (sq : Int)) ∧ w'.cell? ⟨w.heap.size, 5, none⟩ = some (.int .u16 (cl : Int)) ∧ w'.cell? ⟨w.heap.size, 6, none⟩ = some (.string (S []))) ((refine HBX.out _ ?_; (repeat (first | exact Below.refl _ _ | refine below_two ?_ hb6 | refine below_two ?_ hb7 | refine Below.drew ?_)); done)) (first
    | (go_at_call 42; with_reducible refine (H1.out _).mono ?_; rintro e w5 ⟨rfl, rfl⟩)
    | (go_at_call 30; with_reducible refine (H2.out _).mono ?_; rintro e w6 ⟨rfl, hb6⟩)
    | (go_at_call 28; with_reducible refine (H3.out _).mono ?_; rintro e w7 ⟨rfl, hb7⟩))
  all_goals
    go_wp2_with fail
    go_ret
    exact ⟨rfl, below_two hb0 (by (repeat (first | exact Below.refl _ _ | refine below_two ?_ hb7 | refine below_two ?_ hb6 | refine Below.drew ?_)))⟩
end Go.Proofs.YtpedkkmoplbdhaaDoor
