/- Walks: a server's key exchange with a hint and a curve, told as data. -/
import Derived.Test.YtfelfjdgmjapnaaDoorSbb
import Derived.Deep.RegionHeld3
namespace Go.Proofs.YtfelfjdgmjapnaaDoor
open Go.RowKit Go.Cv
set_option maxRecDepth 100000
set_option linter.unusedVariables false
theorem sbMsgInfo : (Tryd.prog.info? 32).map (·.size) = some 25 := by kernel_rfl
theorem sbKeyInfo : (Tryd.prog.info? 57).map (·.size) = some 8 := by kernel_rfl
theorem sbPart {w : World} {b o : Nat} {l : List UInt8} (h : Rd w (some ⟨b, o, none⟩) (vs l)) (k m : Nat) : Rd w (some ⟨b, o + k, none⟩) (vs ((l.drop k).take m)) := by
  have h2 := h.drop k
  have h3 : Rd w (some ⟨b, o + k, none⟩) ((vs l).drop k |>.take m) := (show Rd w (some ⟨b, o + k, none⟩) _ from by simpa [add_lit] using h2).take m
  simpa [vs, List.map_take, List.map_drop] using h3
theorem rdAt {w : World} {b o : Nat} {xs : List Value} (h : Rd w (some ⟨b, o, none⟩) xs) (j : Nat) (v : Value) (hj : xs[j]? = some v) : w.cell? ⟨b, o + j, none⟩ = some v := by
  rcases h with rfl | ⟨b', o', hA, h⟩
  · simp at hj
  · injection hA with hA; injection hA with h1 h2; subst h1 h2
    exact h j v hj
def sbMsg (l1 l2 : List UInt8) (t : Int) (cv : Nat) (k : Int) : Array Value := #[.int .u8 12, .bool false, .int .u8 0, .int .u8 0, .int .u32 0, .string (S []), .string (S []), .string (S []), .slice none 0 0, .slice none 0 0, .slice none 0 0, .slice none 0 0, .slice none 0 0, .slice none 0 0, .int .u16 0, .int .u16 0, .string (S []), .string (S l1), .string (S l2), .int .i64 k, .int .u8 t, .int .u16 (cv : Int), .string (S []), .string (S []), .slice none 0 0]
set_option maxHeartbeats 4000000 in
theorem dataSk_any (g : Nat) (A1 A2 : Option Addr) (n1 n2 c1 c2 cv : Nat) (l1 l2 : List UInt8) (w : World) (hk : Blk w g 57 (sbRow A1 n1 c1 3 cv A2 n2 c2))
    (hn1 : l1.length = n1) (hn2 : l2.length = n2) (hr1 : Rd w A1 (vs l1)) (hr2 : Rd w A2 (vs l2)) :
    Calls Tryd.prog 16 #[.pointer (some ⟨g, 0, none⟩)] w fun e w' => e = .returned (.agg (sbMsg l1 l2 3 cv 6)) ∧ Below w.heap.size w w' := by
  have hgs := hk.lt
  go_enter Tryd.func16, Tryd.ntmps16
  go_wp2_with (with_reducible refine Held.store 32 ?_)
  refine held_store_at (g := w.heap.size + 1) (by simp) (cells := sbMsg [] [] 0 0 0) sbMsgInfo rfl rfl rfl (by simp [sbMsg, Value.oneCell']) fun w1 hm hb' hsz => ?_
  have hb := below_two (below_alloc w _) hb'
  have hM := (Blk.new w 32 _).keep hb'
  have m0 := (hm.cell 17).trans (rfl : _ = some (Value.string (S [])))
  have m1 := (hm.cell 18).trans (rfl : _ = some (Value.string (S [])))
  have m2 := (hm.cell 16).trans (rfl : _ = some (Value.string (S [])))
  have f0 := hm.frozen 17
  have f1 := hm.frozen 18
  have f2 := hm.frozen 16
  have HB : Hid (∀ w', Below w.heap.size w1 w' → w'.cell? ⟨g, 0, none⟩ = some (.slice A1 n1 c1) ∧ w'.cell? ⟨g, 3, none⟩ = some (.slice A2 n2 c2) ∧ w'.cell? ⟨g, 6, none⟩ = some (.slice none 0 0)
    ∧ (convert 26 9 (.slice A1 n1 c1)).run Tryd.prog w' = .ok (.string (S l1)) w' ∧ (convert 26 9 (.slice A2 n2 c2)).run Tryd.prog w' = .ok (.string (S l2)) w' ∧ (convert 26 9 (.slice none 0 0)).run Tryd.prog w' = .ok (.string (S [])) w') := fun w' h' => by
    have hb2 := hb.trans h'
    have hk2 := hk.keep hb2
    exact ⟨(hk2.cell 0).trans rfl, (hk2.cell 3).trans rfl, (hk2.cell 6).trans rfl, run_conv_bs w' _ _ 5 Tryd.underlying26 Tryd.underlying5 Tryd.underlying9 l1 A1 n1 c1 hn1 (hr1.keep hb2), run_conv_bs w' _ _ 5 Tryd.underlying26 Tryd.underlying5 Tryd.underlying9 l2 A2 n2 c2 hn2 (hr2.keep hb2), run_conv_bs w' _ _ 5 Tryd.underlying26 Tryd.underlying5 Tryd.underlying9 [] none 0 0 rfl (.nil _ _)⟩
  have HK := Lib.hid (hk.keep hb)
  clear hk hr1 hr2 hn1 hn2
  go_wp2_with fail
  go_region_held3 (fun w' => w'.cell? ⟨g, 0, none⟩ = some (.slice A1 n1 c1) ∧ w'.cell? ⟨g, 3, none⟩ = some (.slice A2 n2 c2) ∧ w'.cell? ⟨g, 6, none⟩ = some (.slice none 0 0)
    ∧ (convert 26 9 (.slice A1 n1 c1)).run Tryd.prog w' = .ok (.string (S l1)) w' ∧ (convert 26 9 (.slice A2 n2 c2)).run Tryd.prog w' = .ok (.string (S l2)) w' ∧ (convert 26 9 (.slice none 0 0)).run Tryd.prog w' = .ok (.string (S [])) w') (exact HB.out _ (by (repeat (first | assumption | exact Below.refl _ _ | refine Below.drew ?_ | refine Below.setCell ?_ (by first | omega | (simp; done) | (simp; omega)) _ | refine Below.alloc ?_ (by first | omega | (simp; done) | (simp; omega)) _)))) (fail)
  have hb3 : Below (w.heap.size + 1) w1 (((w1.setCell ⟨w.heap.size + 1, 17, none⟩ (.string (S l1))).setCell ⟨w.heap.size + 1, 18, none⟩ (.string (S l2))).setCell ⟨w.heap.size + 1, 16, none⟩ (.string (S []))).drew := by (repeat (first | assumption | exact Below.refl _ _ | refine Below.drew ?_ | refine Below.setCell ?_ (by first | omega | (simp; done) | (simp; omega)) _ | refine Below.alloc ?_ (by first | omega | (simp; done) | (simp; omega)) _))
  have hm2 : Blk ((((w1.setCell ⟨w.heap.size + 1, 17, none⟩ (.string (S l1))).setCell ⟨w.heap.size + 1, 18, none⟩ (.string (S l2))).setCell ⟨w.heap.size + 1, 16, none⟩ (.string (S []))).drew) (w.heap.size + 1) 32 (sbMsg l1 l2 0 0 0) := by
    have := (((hm.set_ 17 (.string (S l1))).set_ 18 (.string (S l2))).set_ 16 (.string (S []))).drew
    simpa [sbMsg] using this
  have hk2 := HK.out.below hb3 (by omega)
  have hM2 := hM.below hb3 (by omega)
  have hT2 := hb.trans (hb3.mono (Nat.le_succ _))
  clear hm hM hb hb' hb3 m0 m1 m2 f0 f1 f2 HB HK hsz
  generalize (((w1.setCell ⟨w.heap.size + 1, 17, none⟩ (.string (S l1))).setCell ⟨w.heap.size + 1, 18, none⟩ (.string (S l2))).setCell ⟨w.heap.size + 1, 16, none⟩ (.string (S []))).drew = w2 at *
  have m0 := (hm2.cell 20).trans (rfl : _ = some (Value.int .u8 0))
  have m1 := (hm2.cell 21).trans (rfl : _ = some (Value.int .u16 0))
  have m2 := (hm2.cell 14).trans (rfl : _ = some (Value.int .u16 0))
  have m3 := (hm2.cell 15).trans (rfl : _ = some (Value.int .u16 0))
  have m4 := (hm2.cell 19).trans (rfl : _ = some (Value.int .i64 0))
  have f0 := hm2.frozen 20
  have f1 := hm2.frozen 21
  have f2 := hm2.frozen 14
  have f3 := hm2.frozen 15
  have f4 := hm2.frozen 19
  have HB : Hid (∀ w', Below (w.heap.size + 1) w2 w' → w'.cell? ⟨g, 1, none⟩ = some (.int .u8 3) ∧ w'.cell? ⟨g, 2, none⟩ = some (.int .u16 (cv : Int)) ∧ w'.cell? ⟨g, 4, none⟩ = some (.int .u16 0) ∧ w'.cell? ⟨g, 5, none⟩ = some (.int .u16 0) ∧ w'.cell? ⟨g, 7, none⟩ = some (.int .i64 6)) := fun w' h' => by
    have hk3 := hk2.below h' (by omega)
    exact ⟨(hk3.cell 1).trans rfl, (hk3.cell 2).trans rfl, (hk3.cell 4).trans rfl, (hk3.cell 5).trans rfl, (hk3.cell 7).trans rfl⟩
  have HM := Lib.hid hm2
  have HM2 := Lib.hid hM2
  have HT2 := Lib.hid hT2
  clear hm2 hM2 hT2 hk2
  go_wp2_with fail
  go_region_held3 (fun w' => w'.cell? ⟨g, 1, none⟩ = some (.int .u8 3) ∧ w'.cell? ⟨g, 2, none⟩ = some (.int .u16 (cv : Int)) ∧ w'.cell? ⟨g, 4, none⟩ = some (.int .u16 0) ∧ w'.cell? ⟨g, 5, none⟩ = some (.int .u16 0) ∧ w'.cell? ⟨g, 7, none⟩ = some (.int .i64 6)) (exact HB.out _ (by (repeat (first | assumption | exact Below.refl _ _ | refine Below.drew ?_ | refine Below.setCell ?_ (by first | omega | (simp; done) | (simp; omega)) _ | refine Below.alloc ?_ (by first | omega | (simp; done) | (simp; omega)) _)))) (fail)
  have hb4 : Below (w.heap.size + 1) w2 (((((w2.setCell ⟨w.heap.size + 1, 20, none⟩ (.int .u8 3)).setCell ⟨w.heap.size + 1, 21, none⟩ (.int .u16 (cv : Int))).setCell ⟨w.heap.size + 1, 14, none⟩ (.int .u16 0)).setCell ⟨w.heap.size + 1, 15, none⟩ (.int .u16 0)).setCell ⟨w.heap.size + 1, 19, none⟩ (.int .i64 6)).drew := by (repeat (first | assumption | exact Below.refl _ _ | refine Below.drew ?_ | refine Below.setCell ?_ (by first | omega | (simp; done) | (simp; omega)) _ | refine Below.alloc ?_ (by first | omega | (simp; done) | (simp; omega)) _))
  have hm3 : Blk ((((((w2.setCell ⟨w.heap.size + 1, 20, none⟩ (.int .u8 3)).setCell ⟨w.heap.size + 1, 21, none⟩ (.int .u16 (cv : Int))).setCell ⟨w.heap.size + 1, 14, none⟩ (.int .u16 0)).setCell ⟨w.heap.size + 1, 15, none⟩ (.int .u16 0)).setCell ⟨w.heap.size + 1, 19, none⟩ (.int .i64 6)).drew) (w.heap.size + 1) 32 (sbMsg l1 l2 3 cv 6) := by
    have := (((((HM.out.set_ 20 (.int .u8 3)).set_ 21 (.int .u16 (cv : Int))).set_ 14 (.int .u16 0)).set_ 15 (.int .u16 0)).set_ 19 (.int .i64 6)).drew
    simpa [sbMsg] using this
  have hM4 := HM2.out.below hb4 (by omega)
  have hT4 := HT2.out.trans (hb4.mono (Nat.le_succ _))
  clear hb4 m0 m1 m2 m3 m4 f0 f1 f2 f3 f4 HB HM HM2 HT2
  generalize (((((w2.setCell ⟨w.heap.size + 1, 20, none⟩ (.int .u8 3)).setCell ⟨w.heap.size + 1, 21, none⟩ (.int .u16 (cv : Int))).setCell ⟨w.heap.size + 1, 14, none⟩ (.int .u16 0)).setCell ⟨w.heap.size + 1, 15, none⟩ (.int .u16 0)).setCell ⟨w.heap.size + 1, 19, none⟩ (.int .i64 6)).drew = w3 at *
  go_wp2_with (with_reducible refine Held.load 32 ?_)
  refine held_load_row (cs := sbMsg l1 l2 3 cv 6) hm3 Tryd.underlying32 sbMsgInfo rfl ?_
  go_wp2_with (with_reducible refine Held.store 32 ?_)
  refine held_store_row (cells := sbMsg l1 l2 3 cv 6) hM4 sbMsgInfo rfl rfl rfl (by simp [sbMsg, Value.oneCell']) fun w5 hk5 hg5 _ => ?_
  go_wp2_with fail
  exact bodyPost_cell rfl rfl rfl hk5 Tryd.underlying32 sbMsgInfo ⟨rfl, hT4.grown hg5 hT4.size (fun k hk' => by simp at hk'; omega)⟩
/-- The bytes that are read. -/
def sbIn (cv : Nat) (hint pk : List UInt8) : List UInt8 := (be 2 hint.length ++ hint) ++ ([3] ++ (be 2 cv ++ (be 1 pk.length ++ pk)))
set_option maxHeartbeats 1000000 in
theorem skRead_any (cv m np : Nat) (hint pk : List UInt8) (hh : hint.length = m) (hpk : pk.length = np) (hm : m < 60000) (hm0 : 0 < m) (hp : np < 256) (hp0 : 0 < np) (hcv : cv = 23 ∨ cv = 24 ∨ cv = 29) (l : List UInt8) (hl : l = sbIn cv hint pk) (w : World) :
    Calls Tryd.prog 6 #[.int .i64 6, .string (S l)] w fun e w' => e = .returned (.tuple #[.agg (sbMsg hint pk 3 cv 6), .bool true]) ∧ Below w.heap.size w w' := by
  have hlen : l.length = (2 + m) + (4 + np) := by rw [hl]; simp only [sbIn, List.length_append, be_length, hh, hpk, List.length_cons, List.length_nil]; omega
  have h1 : be 1 np = [UInt8.ofNat np] := by simp [be]
  have h1n : (UInt8.ofNat np).toNat = np := by rw [UInt8.toNat_ofNat']; omega
  obtain ⟨x, y, hxy, hxv⟩ : ∃ a b : UInt8, be 2 m = [a, b] ∧ a.toNat * 256 + b.toNat = m := ⟨UInt8.ofNat (m / 256), UInt8.ofNat m, by simp [be], by rw [UInt8.toNat_ofNat', UInt8.toNat_ofNat']; omega⟩
  obtain ⟨u, v, huv, huvv⟩ : ∃ a b : UInt8, be 2 cv = [a, b] ∧ a.toNat * 256 + b.toNat = cv := ⟨UInt8.ofNat (cv / 256), UInt8.ofNat cv, by simp [be], by rw [UInt8.toNat_ofNat', UInt8.toNat_ofNat']; omega⟩
  have hl2 : l = x :: y :: (hint ++ (3 :: u :: v :: UInt8.ofNat np :: pk)) := by rw [hl, sbIn, hh, hpk, hxy, huv, h1]; simp
  have HIN : Hid (∀ (b : Nat) (w : World), Rd w (some ⟨b, 0, none⟩) (vs l) → SbIn w b (2 + m) np x y u v hint pk) := Lib.hid (fun b w hr => by
    have d : ∀ k, (hint ++ (3 :: u :: v :: UInt8.ofNat np :: pk))[m + k]? = (3 :: u :: v :: UInt8.ofNat np :: pk)[k]? := fun k => by
      rw [List.getElem?_append_right (by omega), hh, Nat.add_sub_cancel_left]
    have vsd : ∀ k (z : UInt8), (3 :: u :: v :: UInt8.ofNat np :: pk)[k]? = some z → w.cell? ⟨b, 2 + m + k, none⟩ = some (.int .u8 z.toNat) := fun k z hz => by
      have e : (vs l)[2 + m + k]? = some (Value.int .u8 z.toNat) := by
        have e1 : l[2 + m + k]? = some z := by
          rw [hl2, show 2 + m + k = (m + k) + 1 + 1 from by omega, List.getElem?_cons_succ, List.getElem?_cons_succ, d k, hz]
        simp only [vs, List.getElem?_map, e1, Option.map_some]
      have := rdAt hr (2 + m + k) _ e
      simpa using this
    have r0 := hr.byte 0 (by rw [hlen]; omega)
    have r1 := hr.byte 1 (by rw [hlen]; omega)
    rw [hl2] at r0 r1
    simp at r0 r1
    have p2 := sbPart hr 2 m
    have p4 := sbPart hr (2 + m + 4) np
    have e2 : (l.drop 2).take m = hint := by rw [hl2]; simp [← hh]
    have e4 : (l.drop (2 + m + 4)).take np = pk := by
      rw [hl2, show 2 + m + 4 = (m + 4) + 1 + 1 from by omega, List.drop_succ_cons, List.drop_succ_cons, ← List.drop_drop, ← hh, List.drop_left]
      simp [← hpk]
    rw [e2] at p2
    rw [e4] at p4
    simp only [Nat.zero_add] at p2 p4
    exact ⟨r0, r1, p2, by simpa using vsd 0 3 rfl, vsd 1 u rfl, vsd 2 v rfl, by have := vsd 3 (UInt8.ofNat np) rfl; rwa [h1n] at this, p4⟩)
  have HC := Lib.hid (fun g b c w hNc hk hin hgb => sbbUnm g b c l.length m (2 + m) np (4 + np) cv x y u v hint pk hh hpk hm hm0 hp hp0 rfl rfl hlen.symm hNc hxv huvv hcv w hk hin hgb)
  have HH := Lib.hid hh
  have HPK := Lib.hid hpk
  have HLM : Hid (l.length ≤ maxLen) := Lib.hid (by rw [hlen]; simp only [maxLen]; omega)
  clear hh hpk hm hm0 hp hp0 hcv hl hlen h1 h1n hxy hxv huv huvv hl2
  go_enter Tryd.func6, Tryd.ntmps6
  go_wp2_with fail
  refine upon_conv_sb 9 26 5 Tryd.underlying9 Tryd.underlying26 Tryd.underlying5 l HLM.out ?_
  intro c w1 hown hb hlt
  have hk := ((Blk.new _ 57 #[.slice none 0 0, .int .u8 0, .int .u16 0, .slice none 0 0, .int .u16 0, .int .u16 0, .slice none 0 0, .int .i64 6])).keep hb
  have hM := ((Blk.new w 32 _).alloc _).keep hb
  have hr := hown.rd
  have hb1 : Below w.heap.size w w1 := below_two (by (repeat (first | assumption | exact Below.refl _ _ | refine Below.drew ?_ | refine Below.setCell ?_ (by first | omega | (simp; done) | (simp; omega)) _ | refine Below.alloc ?_ (by first | omega | (simp; done) | (simp; omega)) _))) hb
  have hlc := hown.2.1
  clear hown
  simp only [World.size_alloc] at hk hM hr hlt
  have HI := Lib.hid (HIN.out _ _ hr)
  clear hb hr
  go_wp2_with fail
  refine (HC.out (w.heap.size + 1) _ c w1 hlc hk HI.out (by omega)).mono ?_
  rintro e w2 ⟨A1, c1, A2, c2, rfl, hk2, hr1, hr2, hg2⟩
  have hM2 := hM.grown hg2 (by simp)
  have hb2 := hb1.grown hg2 hb1.size (fun k hk => by simp at hk; omega)
  clear hk hM hb1 hg2 HC HI HIN
  go_wp2_with fail
  have hd := dataSk_any (w.heap.size + 1) A1 A2 m np c1 c2 cv hint pk w2 hk2 HH.out HPK.out hr1 hr2
  have HD := Lib.hid hd
  clear hk2 hr1 hr2 hd
  refine HD.out.mono ?_
  rintro e w3 ⟨rfl, hb3⟩
  have hM3 := hM2.keep hb3
  have hb4 := below_two hb2 hb3
  clear hM2 hb2 hb3
  go_wp2_with (with_reducible refine Held.store 32 ?_)
  refine held_store_row (cells := sbMsg hint pk 3 cv 6) hM3 sbMsgInfo rfl rfl rfl (by simp [sbMsg, Value.oneCell']) fun w5 hk5 hg5 _ => ?_
  go_wp2_with fail
  exact bodyPost_cell2 rfl rfl rfl hk5 Tryd.underlying32 sbMsgInfo ⟨rfl, hb4.grown hg5 hb4.size (fun k hk' => by simp at hk'; omega)⟩
end Go.Proofs.YtfelfjdgmjapnaaDoor
