/- Walks: a client's key exchange read. -/
import Derived.Test.YtnjomlcenolkdaaDoorBig
import Derived.Test.YtnjomlcenolkdaaDoorOps3
import Derived.Test.YtnjomlcenolkdaaDoorRow
import Derived.Test.YtnjomlcenolkdaaDoorU16
import Derived.Deep.RegionHeld3
namespace Go.Proofs.YtnjomlcenolkdaaDoor
open Go.RowKit Go.Cv
set_option maxRecDepth 100000
set_option linter.unusedVariables false
theorem msgInfo : (Tryd.prog.info? 34).map (·.size) = some 25 := by kernel_rfl
def zeroMsg : Array Value := #[.int .u8 0, .bool false, .int .u8 0, .int .u8 0, .int .u32 0, .string (S []), .string (S []), .string (S []), .slice none 0 0, .slice none 0 0, .slice none 0 0, .slice none 0 0, .slice none 0 0, .slice none 0 0, .int .u16 0, .int .u16 0, .string (S []), .string (S []), .string (S []), .int .i64 0, .int .u8 0, .int .u16 0, .string (S []), .string (S []), .slice none 0 0]
theorem has44 (w : World) : Calls Tryd.prog 44 #[.int .i64 4, .int .i64 4] w fun e w' => e = .returned (.bool true) ∧ w = w' := by
  go_enter Tryd.func44, Tryd.ntmps44
  go_wp2_with fail
  go_ret
  exact ⟨rfl, rfl⟩
theorem has42 (w : World) : Calls Tryd.prog 44 #[.int .i64 4, .int .i64 2] w fun e w' => e = .returned (.bool false) ∧ w = w' := by
  go_enter Tryd.func44, Tryd.ntmps44
  go_wp2_with fail
  go_ret
  exact ⟨rfl, rfl⟩
theorem has24 (w : World) : Calls Tryd.prog 44 #[.int .i64 2, .int .i64 4] w fun e w' => e = .returned (.bool false) ∧ w = w' := by
  go_enter Tryd.func44, Tryd.ntmps44
  go_wp2_with fail
  go_ret
  exact ⟨rfl, rfl⟩
theorem has22 (w : World) : Calls Tryd.prog 44 #[.int .i64 2, .int .i64 2] w fun e w' => e = .returned (.bool true) ∧ w = w' := by
  go_enter Tryd.func44, Tryd.ntmps44
  go_wp2_with fail
  go_ret
  exact ⟨rfl, rfl⟩
theorem ck_short (g : Nat) (A : Option Addr) (n c : Nat) (hn : decide ((n : Int) < 2) = true) (ad : Addr) (w : World) (hg : w.cell? ⟨1, 0, none⟩ = some (.iface 118 (.pointer (some ad)))) :
    Calls Tryd.prog 37 #[.pointer (some ⟨g, 0, none⟩), .slice A n c] w fun e w' =>
      e = .returned (.iface 118 (.pointer (some ad))) ∧ w = w' := by
  go_enter Tryd.func37, Tryd.ntmps37
  go_wp2_with fail
  go_ret
  exact ⟨rfl, rfl⟩
theorem ck4_cut (g : Nat) (x0 x1 : Value) (b o n c p : Nat) (hn : (2 : Int) ≤ n) (hm : (n : Int) ≤ 3000000000) (hp : (p : Int) < 256) (hlt : (n : Int) - 1 < p) (ad : Addr) (w : World)
    (hk : Blk w g 88 #[x0, x1, .int .i64 4]) (h0 : w.cell? ⟨b, o, none⟩ = some (.int .u8 p)) (hg : w.cell? ⟨1, 0, none⟩ = some (.iface 118 (.pointer (some ad)))) :
    Calls Tryd.prog 37 #[.pointer (some ⟨g, 0, none⟩), .slice (some ⟨b, o, none⟩) n c] w fun e w' =>
      e = .returned (.iface 118 (.pointer (some ad))) ∧ w = w' := by
  have k2 := hk.cell 2
  simp at k2
  clear hk
  go_enter Tryd.func37, Tryd.ntmps37
  go_wp2_with fail
  refine (has42 w).mono ?_
  rintro e w1 ⟨rfl, rfl⟩
  go_wp2_with fail
  refine (has44 w).mono ?_
  rintro e w1 ⟨rfl, rfl⟩
  go_wp2_with fail
  go_ret
  exact ⟨rfl, rfl⟩
theorem ck4_ok (g : Nat) (x0 x1 : Value) (b o n c : Nat) (l : List UInt8) (p : Nat) (hn : (2 : Int) ≤ n) (hm : (n : Int) ≤ 3000000000) (hnc : (n : Int) ≤ c) (hp : (p : Int) < 256) (hle : (p : Int) ≤ (n : Int) - 1) (w : World)
    (hk : Blk w g 88 #[x0, x1, .int .i64 4]) (hr : Rd w (some ⟨b, o, none⟩) (vs l)) (hl : l.length = n) (h0 : w.cell? ⟨b, o, none⟩ = some (.int .u8 p)) :
    Calls Tryd.prog 37 #[.pointer (some ⟨g, 0, none⟩), .slice (some ⟨b, o, none⟩) n c] w fun e w' =>
      e = .returned .nilIface ∧ ∃ A' c', Blk w' g 88 #[x0, .slice A' p c', .int .i64 4] ∧ Rd w' A' (vs ((l.drop 1).take p)) ∧ w.grownBy w' (some g) := by
  have k2 := hk.cell 2
  have hgs := hk.lt
  simp at k2
  have e1 : (0 : Int) ≤ 1 + p := by omega
  go_enter Tryd.func37, Tryd.ntmps37
  go_wp2_with fail
  refine (has42 w).mono ?_
  rintro e w1 ⟨rfl, rfl⟩
  go_wp2_with fail
  refine (has44 w).mono ?_
  rintro e w1 ⟨rfl, rfl⟩
  go_wp2_with (at_builtin; refine Held.on ?_)
  have hz : 0 + (1 + p - 1) = p := by omega
  have hl1 : ((l.drop 1).take p).length = 1 + p - 1 := by simp; omega
  have hR1 : Rd (w.alloc (.cells #[] 5)) (some ⟨b, o + 1, none⟩) (vs ((l.drop 1).take p)) := by
    rw [vs_take, vs_drop]
    exact ((hr.drop 1).take p).keep ((Below.refl _ w).alloc (Nat.le_refl _) _)
  refine held_append rfl (.tmp 72) (.tmp 80) 27 27 rfl w.heap.size 5 _ 1 1 Tryd.underlying27 (.inl Tryd.underlying27) u8info rfl (by omega) (xs := []) (ys := vs ((l.drop 1).take p)) rfl rfl (own_made0 w _) ⟨by rw [vs_length, hl1]; simp, vs_one _, .inl ⟨_, _, rfl, hR1⟩⟩ (by omega) (by simp only [maxLen]; omega) (by simp) ?_
  intro A' c' w1 hown hg hor
  have hk1 := (hk.alloc (.cells #[] 5)).grown hg (by simp; omega)
  have q1 := hk1.cell 1
  have f1 := hk1.frozen 1
  have hK := hk1.set_ 1 (.slice A' (0 + (1 + p - 1)) c')
  have hG := grown_trans (grown_of_below (below_of_grown ((Below.refl _ w).alloc (Nat.le_refl _) (.cells #[] 5)) hg (by simp) (Nat.le_refl _)) (some g)) (grown_set w1 g 1 (.slice A' (0 + (1 + p - 1)) c'))
  have hO := hown.grown (grown_set w1 g 1 (.slice A' (0 + (1 + p - 1)) c')) (.inl (by rcases hor with ⟨rfl, _⟩ | rfl <;> simp <;> omega))
  simp at q1
  clear hk hr hR1 hg hown
  go_wp2_with fail
  go_ret
  exact ⟨rfl, A', c', by simpa [hz] using hK, by simpa using hO.rd, by simpa [hz] using hG⟩

def ckMsg (l1 l2 : List UInt8) (k : Int) : Array Value := #[.int .u8 16, .bool false, .int .u8 0, .int .u8 0, .int .u32 0, .string (S []), .string (S []), .string (S []), .slice none 0 0, .slice none 0 0, .slice none 0 0, .slice none 0 0, .slice none 0 0, .slice none 0 0, .int .u16 0, .int .u16 0, .string (S []), .string (S l1), .string (S l2), .int .i64 k, .int .u8 0, .int .u16 0, .string (S []), .string (S []), .slice none 0 0]
theorem dataCk_any (g : Nat) (A1 A2 : Option Addr) (n1 n2 c1 c2 : Nat) (l1 l2 : List UInt8) (k : Int) (w : World) (hk : Blk w g 88 #[.slice A1 n1 c1, .slice A2 n2 c2, .int .i64 k])
    (hn1 : l1.length = n1) (hn2 : l2.length = n2) (hr1 : Rd w A1 (vs l1)) (hr2 : Rd w A2 (vs l2)) :
    Calls Tryd.prog 38 #[.pointer (some ⟨g, 0, none⟩)] w fun e w' => e = .returned (.agg (ckMsg l1 l2 k)) ∧ Below w.heap.size w w' := by
  have hgs := hk.lt
  go_enter Tryd.func38, Tryd.ntmps38
  go_wp2_with (with_reducible refine Held.store 34 ?_)
  refine held_store_at (g := w.heap.size + 1) (by simp) (cells := ckMsg [] [] 0) msgInfo rfl rfl rfl (by simp [ckMsg, Value.oneCell']) fun w1 hm hb' hsz => ?_
  have hb := below_two (below_alloc w _) hb'
  have hM := (Blk.new w 34 _).keep hb'
  have hk1 := hk.keep hb
  have q0 := hk1.cell 0
  have q1 := hk1.cell 1
  have q2 := hk1.cell 2
  have m0 := hm.cell 17
  have m1 := hm.cell 18
  have m2 := hm.cell 19
  have f0 := hm.frozen 17
  have f1 := hm.frozen 18
  have f2 := hm.frozen 19
  simp [ckMsg] at q0 q1 q2 m0 m1 m2
  have r1 := hr1.keep hb
  have r2 := hr2.keep hb
  go_wp2_with fail
  have HB : Hid (∀ w', Below w.heap.size w1 w' → w'.cell? ⟨g, 0, none⟩ = some (.slice A1 n1 c1) ∧ w'.cell? ⟨g, 1, none⟩ = some (.slice A2 n2 c2) ∧ w'.cell? ⟨g, 2, none⟩ = some (.int .i64 k)
    ∧ (convert 27 9 (.slice A1 n1 c1)).run Tryd.prog w' = .ok (.string (S l1)) w' ∧ (convert 27 9 (.slice A2 n2 c2)).run Tryd.prog w' = .ok (.string (S l2)) w') := fun w' h' => by
    have hb2 := hb.trans h'
    have hk2 := hk.keep hb2
    exact ⟨hk2.cell 0, hk2.cell 1, hk2.cell 2, run_conv_bs w' _ _ 5 Tryd.underlying27 Tryd.underlying5 Tryd.underlying9 l1 A1 n1 c1 hn1 (hr1.keep hb2), run_conv_bs w' _ _ 5 Tryd.underlying27 Tryd.underlying5 Tryd.underlying9 l2 A2 n2 c2 hn2 (hr2.keep hb2)⟩
  clear q0 q1 q2 r1 r2 hk hk1 hr1 hr2
  go_region_held3 (fun w' => w'.cell? ⟨g, 0, none⟩ = some (.slice A1 n1 c1) ∧ w'.cell? ⟨g, 1, none⟩ = some (.slice A2 n2 c2) ∧ w'.cell? ⟨g, 2, none⟩ = some (.int .i64 k)
    ∧ (convert 27 9 (.slice A1 n1 c1)).run Tryd.prog w' = .ok (.string (S l1)) w' ∧ (convert 27 9 (.slice A2 n2 c2)).run Tryd.prog w' = .ok (.string (S l2)) w') (exact HB.out _ (by (repeat (first | assumption | exact Below.refl _ _ | refine Below.drew ?_ | refine Below.setCell ?_ (by first | omega | (simp; done) | (simp; omega)) _ | refine Below.alloc ?_ (by first | omega | (simp; done) | (simp; omega)) _)))) (fail)
  have hK := ((hm.set_ 17 (.string (S l1))).set_ 18 (.string (S l2))).set_ 19 (.int .i64 k)
  have hb2 : Below w.heap.size w (((w1.setCell ⟨w.heap.size + 1, 17, none⟩ (.string (S l1))).setCell ⟨w.heap.size + 1, 18, none⟩ (.string (S l2))).setCell ⟨w.heap.size + 1, 19, none⟩ (.int .i64 k)).drew := by (repeat (first | assumption | exact Below.refl _ _ | refine Below.drew ?_ | refine Below.setCell ?_ (by first | omega | (simp; done) | (simp; omega)) _ | refine Below.alloc ?_ (by first | omega | (simp; done) | (simp; omega)) _))
  have hb3 : Below (w.heap.size + 1) w1 (((w1.setCell ⟨w.heap.size + 1, 17, none⟩ (.string (S l1))).setCell ⟨w.heap.size + 1, 18, none⟩ (.string (S l2))).setCell ⟨w.heap.size + 1, 19, none⟩ (.int .i64 k)).drew := by (repeat (first | assumption | exact Below.refl _ _ | refine Below.drew ?_ | refine Below.setCell ?_ (by first | omega | (simp; done) | (simp; omega)) _ | refine Below.alloc ?_ (by first | omega | (simp; done) | (simp; omega)) _))
  have hM2 := hM.below hb3 (by omega)
  have hK' := hK.drew
  clear hm hK m0 m1 m2 f0 f1 f2 HB hM
  go_wp2_with (with_reducible refine Held.load 34 ?_)
  refine held_load_row (cs := ckMsg l1 l2 k) hK' Tryd.underlying34 msgInfo rfl ?_
  go_wp2_with (with_reducible refine Held.store 34 ?_)
  refine held_store_row (cells := ckMsg l1 l2 k) hM2 msgInfo rfl rfl rfl (by simp [ckMsg, Value.oneCell']) fun w3 hk3 hg3 _ => ?_
  go_wp2_with fail
  exact bodyPost_cell rfl rfl rfl hk3 Tryd.underlying34 msgInfo ⟨rfl, hb2.grown hg3 hb2.size (fun k hk' => by simp at hk'; omega)⟩

theorem clientKeyRead_ok4 (l : List UInt8) (p : Nat) (hn : (2 : Int) ≤ l.length) (hm : (l.length : Int) ≤ 3000000000) (hp : (p : Int) < 256) (hle : (p : Int) = (l.length : Int) - 1) (hh : l.getD 0 0 = UInt8.ofNat p) (m : List UInt8) (hq : (l.drop 1).take p = m) (hqn : m.length = p) (w : World) :
    Calls Tryd.prog 17 #[.int .i64 4, .string (S l)] w fun e w' => e = .returned (.tuple #[.agg (ckMsg [] m 4), .bool true]) ∧ Below w.heap.size w w' := by
  go_enter Tryd.func17, Tryd.ntmps17
  go_wp2_with fail
  refine upon_conv_sb 9 27 5 Tryd.underlying9 Tryd.underlying27 Tryd.underlying5 l (by simp only [maxLen]; omega) ?_
  intro c w1 hown hb hlt
  have hk := ((Blk.new _ 88 #[.slice none 0 0, .slice none 0 0, .int .i64 4])).keep hb
  have hM := ((Blk.new w 34 _).alloc _).keep hb
  have hr := hown.rd
  have hb1 : Below w.heap.size w w1 := below_two (by (repeat (first | assumption | exact Below.refl _ _ | refine Below.drew ?_ | refine Below.setCell ?_ (by first | omega | (simp; done) | (simp; omega)) _ | refine Below.alloc ?_ (by first | omega | (simp; done) | (simp; omega)) _))) hb
  have hlc := hown.2.1
  clear hown
  have h0 := hr.byte 0 (by omega)
  rw [hh] at h0
  have hp' : (UInt8.ofNat p).toNat = p := by simp; omega
  rw [hp'] at h0
  simp only [World.size_alloc] at hk hM hr h0 hlt
  clear hb
  go_wp2_with fail
  refine (ck4_ok (w.heap.size + 1) _ _ _ 0 l.length c l p hn hm (by omega) hp (by omega) w1 hk hr rfl (by simpa using h0)).mono ?_
  rintro e w2 ⟨rfl, A', c', hk2, hr2, hg2⟩
  rw [hq] at hr2
  have hM2 := hM.grown hg2 (by simp)
  have hb2 := hb1.grown hg2 hb1.size (fun k hk => by simp at hk; omega)
  clear hk hr hM hb1 hg2
  go_wp2_with fail
  refine (dataCk_any (w.heap.size + 1) none A' 0 p 0 c' [] m 4 w2 hk2 rfl hqn (.nil _ _) hr2).mono ?_
  rintro e w3 ⟨rfl, hb3⟩
  have hM3 := hM2.keep hb3
  have hb4 := below_two hb2 hb3
  clear hM2 hk2 hr2 hb2 hb3
  go_wp2_with (with_reducible refine Held.store 34 ?_)
  refine held_store_row (cells := ckMsg [] m 4) hM3 msgInfo rfl rfl rfl (by simp [ckMsg, Value.oneCell']) fun w5 hk5 hg5 _ => ?_
  go_wp2_with fail
  exact bodyPost_cell2 rfl rfl rfl hk5 Tryd.underlying34 msgInfo ⟨rfl, hb4.grown hg5 hb4.size (fun k hk' => by simp at hk'; omega)⟩
theorem clientKeyRead_no4 (l : List UInt8) (p : Nat) (hm : (l.length : Int) ≤ 3000000000) (hp : (p : Int) < 256) (hlt : (l.length : Int) - 1 < p) (hh : (2 : Int) ≤ l.length → l.getD 0 0 = UInt8.ofNat p) (ad : Addr) (w : World)
    (hg : w.cell? ⟨1, 0, none⟩ = some (.iface 118 (.pointer (some ad)))) :
    Calls Tryd.prog 17 #[.int .i64 4, .string (S l)] w fun e w' => e = .returned (.tuple #[.agg zeroMsg, .bool false]) ∧ Below w.heap.size w w' := by
  go_enter Tryd.func17, Tryd.ntmps17
  go_wp2_with fail
  refine upon_conv_sb 9 27 5 Tryd.underlying9 Tryd.underlying27 Tryd.underlying5 l (by simp only [maxLen]; omega) ?_
  intro c w1 hown hb hlt
  have hk := ((Blk.new _ 88 #[.slice none 0 0, .slice none 0 0, .int .i64 4])).keep hb
  have hM := ((Blk.new w 34 _).alloc _).keep hb
  have hr := hown.rd
  have hb1 : Below w.heap.size w w1 := below_two (by (repeat (first | assumption | exact Below.refl _ _ | refine Below.drew ?_ | refine Below.setCell ?_ (by first | omega | (simp; done) | (simp; omega)) _ | refine Below.alloc ?_ (by first | omega | (simp; done) | (simp; omega)) _))) hb
  have hlc := hown.2.1
  have hg1 := keep_of_below hb1 _ _ hg
  simp only [World.size_alloc] at hk hM hr hlt
  clear hb
  have HC : Calls Tryd.prog 37 #[.pointer (some ⟨w.heap.size + 1, 0, none⟩), .slice (some ⟨w.heap.size + 1 + 1, 0, none⟩) l.length c] w1 fun e w' =>
      e = .returned (.iface 118 (.pointer (some ad))) ∧ w1 = w' := by
    by_cases h2 : (2 : Int) ≤ l.length
    · have h0 := hr.byte 0 (by omega)
      rw [hh h2] at h0
      have hp' : (UInt8.ofNat p).toNat = p := by simp; omega
      rw [hp'] at h0
      exact ck4_cut _ _ _ _ _ _ c p h2 hm hp (by omega) ad w1 hk (by simpa using h0) hg1
    · exact ck_short _ _ _ c (by simp; omega) ad w1 hg1
  clear hg1 hg hk hr hown hh
  go_wp2_with fail
  refine HC.mono ?_
  rintro e w2 ⟨rfl, rfl⟩
  clear HC
  go_wp2_with (with_reducible refine Held.store 34 ?_)
  refine held_store_row (cells := zeroMsg) hM msgInfo rfl rfl rfl (by simp [zeroMsg, Value.oneCell']) fun w5 hk5 hg5 _ => ?_
  go_wp2_with fail
  exact bodyPost_cell2 rfl rfl rfl hk5 Tryd.underlying34 msgInfo ⟨rfl, hb1.grown hg5 hb1.size (fun k hk' => by simp at hk'; omega)⟩
end Go.Proofs.YtnjomlcenolkdaaDoor
