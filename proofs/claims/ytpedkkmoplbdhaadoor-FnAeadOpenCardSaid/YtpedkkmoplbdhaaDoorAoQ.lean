/- Walks: a record without a connection ID, opened in the specification. -/
import Derived.Test.YtpedkkmoplbdhaaDoorAoZ
namespace Go.Proofs.YtpedkkmoplbdhaaDoor
open Go.RowKit Go.Cv
set_option maxRecDepth 100000
set_option linter.unusedVariables false
theorem specOpen (key nonce sealed ad : List UInt8) (tag : Nat) (h1 : 1 ≤ tag) (h2 : tag ≤ 32) (hs1 : key.length ≤ 100000) (hs2 : nonce.length ≤ 100000) (hs3 : sealed.length ≤ 100000) (hs4 : ad.length ≤ 100000) (w : World) :
    Calls Tryd.prog 41 #[.string (S key), .string (S nonce), .string (S sealed), .string (S ad), .int .i64 (tag : Nat)] w fun e w' => e = .returned (.tuple #[.string (S ((aOpen key nonce sealed ad tag).getD [])), .bool (aOpen key nonce sealed ad tag).isSome]) ∧ Below w.heap.size w w' := by
  by_cases hlt : sealed.length < tag
  · have ha : aOpen key nonce sealed ad tag = none := by rw [aOpen, if_pos hlt]
    rw [ha]
    exact (s_open_few key nonce sealed ad tag h2 hs3 hlt w).mono fun e w' h => ⟨h.1, by rw [← h.2]; exact Below.refl _ _⟩
  · have hn : (sealed.length - tag) + tag = sealed.length := by omega
    refine (s_open_in key nonce sealed ad tag (sealed.length - tag) h1 h2 hs1 hs2 hs3 hs4 hn _ rfl w).mono fun e w' h => ?_
    by_cases hq : aMark key nonce (aHide key nonce sealed (sealed.length - tag)) ad tag = sealed.drop (sealed.length - tag)
    · have ha : aOpen key nonce sealed ad tag = some (aHide key nonce sealed (sealed.length - tag)) := by rw [aOpen, if_neg hlt, if_pos hq]
      rw [ha]
      rw [decide_eq_true hq] at h
      exact h
    · have ha : aOpen key nonce sealed ad tag = none := by rw [aOpen, if_neg hlt, if_neg hq]
      rw [ha]
      rw [decide_eq_false hq] at h
      exact h
theorem specAeFew (key iv body : List UInt8) (cs : Array Value) (L tag : Nat) (hL : body.length = L) (hl : L < 8 + tag) (ht : tag ≤ 16) (w : World) :
    Calls Tryd.prog 19 #[.string (S key), .string (S iv), .int .i64 (tag : Nat), .agg cs, .string (S body)] w fun e w' => e = .returned (.tuple #[.string (S []), .bool false]) ∧ Below w.heap.size w w' := by
  have hz : (S body).size = L := by rw [S_size, hL]
  obtain ⟨q, hq⟩ : ∃ q, 8 + tag = q := ⟨_, rfl⟩
  have e1 : (8 : Int) + (tag : Int) = (q : Int) := by omega
  have t1 : decide ((L : Int) < q) = true := decide_eq_true (by omega)
  have t2 : L < q := by omega
  have e2 : IntKind.i64.wrap (q : Int) = q := i64_nat q (by omega)
  clear hL hl ht hq
  go_enter Tryd.func19, Tryd.ntmps19
  go_wp2_with fail
  first | go_ret2 | go_ret
  first | exact ⟨rfl, below_alloc _ _⟩ | exact ⟨⟨rfl, rfl⟩, below_alloc _ _⟩ | exact below_alloc _ _
set_option maxHeartbeats 4000000 in
theorem specAeOpen (key iv body : List UInt8) (ct ep sq cl L m tag : Nat) (hk : key.length ≤ 2000) (hiv : iv.length = 4) (hL : body.length = L) (hb : L ≤ 3000) (hm : 8 + (tag + m) = L) (h1 : 1 ≤ tag) (h2 : tag ≤ 16) (hn : ((ct : Int) == 25) = false) (hn' : ¬ ct = 25) (hct : (ct : Int) < 256) (hep : (ep : Int) < 65536) (w : World) :
    Calls Tryd.prog 19 #[.string (S key), .string (S iv), .int .i64 (tag : Nat), .agg (recRow ct 254 253 ep sq cl []), .string (S body)] w fun e w' => e = .returned (.tuple #[.string (S ((aOpen key (iv ++ body.take 8) (body.drop 8) (addS ct 254 253 ep sq m) tag).getD [])), .bool (aOpen key (iv ++ body.take 8) (body.drop 8) (addS ct 254 253 ep sq m) tag).isSome]) ∧ Below w.heap.size w w' := by
  have hz : (S body).size = L := by rw [S_size, hL]
  have hx1 : (S body).extract 0 8 = S (body.take 8) := by rw [S_extract, List.drop_zero]
  have hx2 : (S body).extract 8 L = S (body.drop 8) := by rw [S_extract, List.take_of_length_le (by rw [hL]; exact Nat.le_refl _)]
  have l8 : (body.take 8).length = 8 := by rw [List.length_take]; omega
  have ld : (body.drop 8).length = tag + m := by rw [List.length_drop]; omega
  have H1 : Hid (∀ W, Calls Tryd.prog 42 #[.string (S iv), .string (S (body.take 8))] W fun e w' => e = .returned (.string (S (iv ++ body.take 8))) ∧ W = w') := Lib.hid (fun W => sAeNonce iv (body.take 8) hiv (by omega) W)
  have H2 : Hid (∀ W, Calls Tryd.prog 30 #[.agg #[.int .u8 (ct : Int), .int .u8 254, .int .u8 253, .int .u16 (ep : Int), .int .u64 (sq : Int), .int .u16 (cl : Int), .string (S [])], .int .i64 (m : Nat)] W fun e w' => e = .returned (.string (S (addS ct 254 253 ep sq m))) ∧ Below W.heap.size W w') := Lib.hid (fun W => sExtraN [] ct 254 253 ep sq cl m hn hn' hct (by omega) (by omega) hep (by omega) W)
  have hla : (addS ct 254 253 ep sq m).length ≤ 100 := by simp [addS, be_length]
  have H3 := Lib.hid (fun W => specOpen key (iv ++ body.take 8) (body.drop 8) (addS ct 254 253 ep sq m) tag h1 (by omega) (by omega) (by rw [List.length_append]; omega) (by omega) (by omega) W)
  have HBX : Hid (∀ w', Below (w.alloc (.cells (recRow ct 254 253 ep sq cl []) 25)).heap.size (w.alloc (.cells (recRow ct 254 253 ep sq cl []) 25)) w' → (w'.cell? ⟨w.heap.size, 0, none⟩ = some (.int .u8 (ct : Int)) ∧ w'.cell? ⟨w.heap.size, 1, none⟩ = some (.int .u8 254) ∧ w'.cell? ⟨w.heap.size, 2, none⟩ = some (.int .u8 253) ∧ w'.cell? ⟨w.heap.size, 3, none⟩ = some (.int .u16 (ep : Int)) ∧ w'.cell? ⟨w.heap.size, 4, none⟩ = some (.int .u64 (sq : Int)) ∧ w'.cell? ⟨w.heap.size, 5, none⟩ = some (.int .u16 (cl : Int)) ∧ w'.cell? ⟨w.heap.size, 6, none⟩ = some (.string (S [])))) := Lib.hid (fun w' hb => recCells_of ((Blk.new w 25 (recRow ct 254 253 ep sq cl [])).keep hb))
  obtain ⟨b8, hb8⟩ : ∃ y, body.take 8 = y := ⟨_, rfl⟩
  obtain ⟨bd, hbd⟩ : ∃ y, body.drop 8 = y := ⟨_, rfl⟩
  rw [hb8] at H1 H3 hx1 ⊢
  rw [hbd] at H3 hx2 ⊢
  obtain ⟨nc, hnc⟩ : ∃ y, iv ++ b8 = y := ⟨_, rfl⟩
  obtain ⟨ad, had⟩ : ∃ y, addS ct 254 253 ep sq m = y := ⟨_, rfl⟩
  rw [hnc] at H1 H3 ⊢
  rw [had] at H2 H3 ⊢
  obtain ⟨op, hop⟩ : ∃ y, aOpen key nc bd ad tag = y := ⟨_, rfl⟩
  rw [hop] at H3 ⊢
  obtain ⟨q, hq⟩ : ∃ q, 8 + tag = q := ⟨_, rfl⟩
  obtain ⟨L8, hL8⟩ : ∃ q, tag + m = q := ⟨_, rfl⟩
  have i1 : (8 : Int) ≤ L := by omega
  have i2 : ¬ (L : Int) < 8 := by omega
  have e1 : (8 : Int) + (tag : Int) = (q : Int) := by omega
  have e3 : (L : Int) - 8 = (L8 : Int) := by omega
  have e4 : (L8 : Int) - (tag : Int) = (m : Int) := by omega
  have t1 : decide ((L : Int) < q) = false := decide_eq_false (by omega)
  have t2 : ¬ L < q := by omega
  have He2 : Hid (IntKind.i64.wrap (q : Int) = q) := Lib.hid (i64_nat q (by omega))
  have He5 : Hid (IntKind.i64.wrap (L8 : Int) = L8) := Lib.hid (i64_nat L8 (by omega))
  have He6 : Hid (IntKind.i64.wrap (m : Int) = m) := Lib.hid (i64_nat m (by omega))
  clear hk hiv hL hb hm h1 h2 hn hn' hct hep hnc had hop hla hb8 hbd l8 ld hq hL8
  have e2 := He2.out
  have e5 := He5.out
  have e6 := He6.out
  have hb0 := below_alloc w (.cells (recRow ct 254 253 ep sq cl []) 25)
  have hc : (recRow ct 254 253 ep sq cl []) = #[.int .u8 (ct : Int), .int .u8 254, .int .u8 253, .int .u16 (ep : Int), .int .u64 (sq : Int), .int .u16 (cl : Int), .string (S [])] := rfl
  rw [hc] at HBX hb0 ⊢
  clear hc
  go_enter Tryd.func19, Tryd.ntmps19
  go_wp2_with fail
  generalize (World.alloc w _) = W at *
  go_region_held_law (fun w' => w'.cell? ⟨w.heap.size, 0, none⟩ = some (.int .u8 (ct : Int)) ∧ w'.cell? ⟨w.heap.size, 1, none⟩ = some (.int .u8 254) ∧ w'.cell? ⟨w.heap.size, 2, none⟩ = some (.int .u8 253) ∧ w'.cell? ⟨w.heap.size, 3, none⟩ = some (.int .u16 (ep : Int)) ∧ w'.cell? ⟨w.heap.size, 4, none⟩ = some (.int .u64 (sq : Int)) ∧ w'.cell? ⟨w.heap.size, 5, none⟩ = some (.int .u16 (cl : Int)) ∧ w'.cell? ⟨w.heap.size, 6, none⟩ = some (.string (S []))) ((refine HBX.out _ ?_; (repeat (first | exact Below.refl _ _ | refine below_two ?_ hb6 | refine below_two ?_ hb7 | refine Below.drew ?_)); done)) (first
    | (go_at_call 42; with_reducible refine (H1.out _).mono ?_; rintro e w5 ⟨rfl, rfl⟩)
    | (go_at_call 30; with_reducible refine (H2.out _).mono ?_; rintro e w6 ⟨rfl, hb6⟩)
    | (go_at_call 41; with_reducible refine (H3.out _).mono ?_; rintro e w7 ⟨rfl, hb7⟩))
  all_goals
    have hB := below_two hb0 (w2 := w7) (by (repeat (first | exact Below.refl _ _ | refine below_two ?_ hb7 | refine below_two ?_ hb6 | refine Below.drew ?_)))
    go_wp2_with fail
    first | go_ret2 | go_ret
    first | exact ⟨rfl, hB⟩ | exact ⟨⟨rfl, rfl⟩, hB⟩ | exact hB
end Go.Proofs.YtpedkkmoplbdhaaDoor
