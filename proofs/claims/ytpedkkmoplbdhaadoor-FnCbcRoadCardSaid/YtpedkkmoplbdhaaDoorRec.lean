/- Walks: a record's header and its bytes. -/
import Derived.Test.YtpedkkmoplbdhaaDoorHdw
import Derived.Deep.RegionHeldLaw
import Derived.Deep.RegionLaw
import Derived.Test.YtpedkkmoplbdhaaDoorBase
namespace Go.Proofs.YtpedkkmoplbdhaaDoor
open Go.RowKit Go.Cv
set_option maxRecDepth 100000
set_option linter.unusedVariables false
theorem results_cell3 {fn : Func} {p u v : Tmp} {ty : TypeId} (h : fn.results = #[.cell p ty, .tmp u, .tmp v]) (tmps : Array Value) (P : Program) (w : World) :
    (results fn tmps).run P w =
      ((asAddr (tmps.getD p undef)).run P w).andThen fun a w₁ => ((loadVar ty a).run P w₁).andThen fun x w₂ => .ok (.tuple #[x, tmps.getD u undef, tmps.getD v undef]) w₂ := by
  simp only [results, h]
  simp [Sem.run_bind, Result.andThen]
theorem bodyPost_cell3 {P : Program} {fn : Func} {R : Ending → World → Prop} {a : Act} {w : World} {p u v : Tmp} {ty : TypeId} (h : fn.results = #[.cell p ty, .tmp u, .tmp v]) (hd : a.defers = []) {g : Nat} {t : TypeId} {cs : Array Value} {fs : Array Field} (hp : a.tmps.getD p undef = .pointer (some ⟨g, 0, none⟩)) (hg : Blk w g t cs)
    (hu : P.underlying ty = some (.struct fs)) (hi : (P.info? ty).map (·.size) = some cs.size) (hR : R (.returned (.tuple #[.agg cs, a.tmps.getD u undef, a.tmps.getD v undef])) w) : bodyPost P fn R .ret a w := by
  refine bodyPost_ret ?_ hd hR
  rw [results_cell3 h, hp]
  simp only [asAddr, Sem.run_pure, Result.andThen_ok]
  rw [run_loadVar_row w g t ty cs (0, 0) _ hg hu rfl hi]
  rfl
set_option maxHeartbeats 2000000 in
theorem record_hi (ct maj mn : UInt8) (ep sq cl n : Nat) (cid plain : List UInt8) (hn : cid.length = n) (hn3 : n ≤ 255) (hp : plain.length ≤ 100000) (hsq : decide ((281474976710655 : Int) < (sq : Int)) = false) (w : World) :
    Calls Tryd.prog 24 #[.agg (rwRow ct maj mn ep sq cl cid), .string (S plain)] w fun e w' => ∃ ra c A' n' c', e = .returned (.tuple #[.agg (hwRow ct maj mn ep sq cl (some ⟨ra, 0, none⟩) n c), .slice A' n' c', .bool true]) ∧ (hdOut ct maj mn ep sq cl cid ++ plain).length = n' ∧ Rd w' (some ⟨ra, 0, none⟩) (vs cid) ∧ Own w' w.heap.size 1 A' n' c' (vs (hdOut ct maj mn ep sq cl cid ++ plain)) ∧ n' ≤ c' ∧ Below w.heap.size w w' ∧ Hi w.heap.size A' := by
  have HH := Lib.hid (fun W => headerW_any ct maj mn ep sq cl cid (by rw [hn]; simp only [maxLen]; omega) W)
  have HM := Lib.hid (fun b ra c W => marshalHd_ok b ct maj mn ep sq cl ra n c cid hn (by omega) hsq W)
  have HN := Lib.hid hn
  have HN3 := Lib.hid hn3
  have HP := Lib.hid hp
  clear hn hn3 hp hsq
  generalize hcs : rwRow ct maj mn ep sq cl cid = cs at HH ⊢
  have hi : (Tryd.prog.info? 25).map (·.size) = some cs.size := by rw [← hcs]; exact rwInfo
  clear hcs
  go_enter Tryd.func24, Tryd.ntmps24
  have hz0 : Blk ((w.alloc (.cells cs 25)).alloc (.cells #[.int .u8 0, .int .u16 0, .int .u8 0, .int .u8 0, .int .u16 0, .int .u64 0, .slice none 0 0] 53)) (w.heap.size + 1) 53 #[.int .u8 0, .int .u16 0, .int .u8 0, .int .u8 0, .int .u16 0, .int .u64 0, .slice none 0 0] := by
    have h := Blk.new (w.alloc (.cells cs 25)) 53 #[.int .u8 0, .int .u16 0, .int .u8 0, .int .u8 0, .int .u16 0, .int .u64 0, .slice none 0 0]
    rw [World.size_alloc] at h
    exact h
  have hg : Blk ((w.alloc (.cells cs 25)).alloc (.cells #[.int .u8 0, .int .u16 0, .int .u8 0, .int .u8 0, .int .u16 0, .int .u64 0, .slice none 0 0] 53)) w.heap.size 25 cs := (Blk.new w _ _).alloc _
  have hb0 : Below w.heap.size w ((w.alloc (.cells cs 25)).alloc (.cells #[.int .u8 0, .int .u16 0, .int .u8 0, .int .u8 0, .int .u16 0, .int .u64 0, .slice none 0 0] 53)) := below_two (below_alloc _ _) (below_alloc _ _)
  go_wp2_with (with_reducible refine Held.load 25 ?_)
  refine held_load_row hg Tryd.underlying25 hi rfl ?_
  clear hi hg
  have hs00 : ((w.alloc (.cells cs 25)).alloc (.cells #[.int .u8 0, .int .u16 0, .int .u8 0, .int .u8 0, .int .u16 0, .int .u64 0, .slice none 0 0] 53)).heap.size = w.heap.size + 2 := by rw [World.size_alloc, World.size_alloc]
  generalize (World.alloc (World.alloc w _) _) = w0 at *
  have HZ0 := Lib.hid hz0
  have HB0 := Lib.hid hb0
  clear hz0 hb0
  go_wp2_with fail
  refine (HH.out w0).mono ?_
  rintro e w1 ⟨ra, c, rfl, hr, hra, hb1⟩
  have HRA := Lib.hid hra
  rw [HN.out]
  have HR := Lib.hid hr
  have HB1 := Lib.hid (below_two HB0.out hb1)
  have HZ1 := Lib.hid (HZ0.out.keep hb1)
  have HSX : Hid (w.heap.size + 2 = w0.heap.size) := Lib.hid hs00.symm
  clear hr hb1 HZ0 HB0 HH hra hs00
  go_wp2_with (with_reducible refine Held.store 53 ?_)
  refine held_store_new (cells := hwRow ct maj mn ep sq cl (some ⟨ra, 0, none⟩) n c) hwInfo rfl rfl rfl (by simp [hwRow, Value.oneCell']) fun w2 hk hb2 hsz2 => ?_
  have HK := Lib.hid hk
  have HB2 := Lib.hid (below_two HB1.out hb2)
  have HR2 := Lib.hid (HR.out.keep hb2)
  have HZ2 := Lib.hid (HZ1.out.keep hb2)
  have HS2 := Lib.hid hsz2
  obtain ⟨y, hy⟩ : ∃ y, w1.heap.size = y := ⟨_, rfl⟩
  rw [hy] at HK HS2 ⊢
  have HYE := Lib.hid hy
  have HYX : Hid (w.heap.size + 1 < y) := Lib.hid (by rw [← hy]; exact HZ1.out.lt)
  clear hk hb2 hsz2 HR HB1 hy
  go_wp2_with fail
  refine (HM.out y ra c w2 HK.out HR2.out).mono ?_
  rintro e w3 ⟨A3, n3, c3, rfl, hl3, hO3, hi3, hb3⟩
  have HK3 := Lib.hid (HK.out.keep hb3)
  have HZ3 := Lib.hid (HZ2.out.keep hb3)
  have HR3 := Lib.hid (HR2.out.keep hb3)
  have HB3 := Lib.hid (below_two HB2.out hb3)
  have HO3 := Lib.hid hO3
  have HI3 := Lib.hid hi3
  have HL3 := Lib.hid hl3
  have HS3 : Hid (y < w2.heap.size ∧ w2.heap.size ≤ w3.heap.size) := Lib.hid ⟨by rw [HS2.out]; exact Nat.lt_succ_self _, hb3.size⟩
  have HX : Hid (∀ w', Tch ((A3.map (·.block)).toList ++ [w.heap.size + 1]) w3 w' → w'.cell? ⟨y, 0, none⟩ = some (.int .u8 ct.toNat) ∧ w'.cell? ⟨y, 1, none⟩ = some (.int .u16 (cl : Int)) ∧ w'.cell? ⟨y, 2, none⟩ = some (.int .u8 maj.toNat) ∧ w'.cell? ⟨y, 3, none⟩ = some (.int .u8 mn.toNat) ∧ w'.cell? ⟨y, 4, none⟩ = some (.int .u16 (ep : Int)) ∧ w'.cell? ⟨y, 5, none⟩ = some (.int .u64 (sq : Int)) ∧ w'.cell? ⟨y, 6, none⟩ = some (.slice (some ⟨ra, 0, none⟩) n c)) := Lib.hid (fun w' ht => hdc (HK3.out.tch ht (fun hm => by
    rcases List.mem_append.1 hm with hm | hm
    · have := HI3.out.inn _ hm; have := HS3.out.1; omega
    · have := HYX.out; simp at hm; omega)))
  clear hl3 hO3 hi3 hb3 HK HZ2 HR2 HB2 HM HS2
  obtain ⟨x, hx⟩ : ∃ x, w.heap.size = x := ⟨_, rfl⟩
  have HXX := Lib.hid hx
  rw [hx] at HZ3 HX ⊢
  have H7 : ∀ (W : World) (v0 v1 v2 v3 v4 v5 v6 : Value), Tch ((A3.map (·.block)).toList ++ [x + 1]) w3 W → Tch ((A3.map (·.block)).toList ++ [x + 1]) w3 (((((((W.setCell ⟨x + 1, 0, none⟩ v0).setCell ⟨x + 1, 1, none⟩ v1).setCell ⟨x + 1, 2, none⟩ v2).setCell ⟨x + 1, 3, none⟩ v3).setCell ⟨x + 1, 4, none⟩ v4).setCell ⟨x + 1, 5, none⟩ v5).setCell ⟨x + 1, 6, none⟩ v6) := fun W v0 v1 v2 v3 v4 v5 v6 h => (((((((h.trans ((Tch.set _ _ _ _).more (by simp))).trans ((Tch.set _ _ _ _).more (by simp))).trans ((Tch.set _ _ _ _).more (by simp))).trans ((Tch.set _ _ _ _).more (by simp))).trans ((Tch.set _ _ _ _).more (by simp))).trans ((Tch.set _ _ _ _).more (by simp))).trans ((Tch.set _ _ _ _).more (by simp)))
  have hxy : x + 1 < w2.heap.size := by have h1 := HS3.out.1; have := HZ1.out.lt; rw [hx] at this; have h2 := HYE.out; omega
  have HXY := Lib.hid hxy
  clear hx hxy HZ1
  go_wp2_with fail
  obtain ⟨d0, d1, d2, d3, d4, d5, d6⟩ := HX.out w3.drew (Tch.below (below_drew w3) _)
  go_region_law (first
    | (refine step_append rfl (.tmp 17) (.tmp 18) 51 9 rfl w2.heap.size 5 _ 1 1 Tryd.underlying51 (.inr Tryd.underlying9) u8info rfl (by omega) (xs := vs (hdOut ct maj mn ep sq cl cid)) (ys := vs plain) (m := plain.length) rfl rfl (HO3.out.keep (below_drew w3)) ⟨by rw [vs_length]; omega, vs_one _, .inr ⟨plain, rfl, rfl, rfl⟩⟩ (by have := HL3.out; rw [hdOut_length] at this; have := HN.out; have := HN3.out; have := HP.out; omega) (by have := HL3.out; rw [hdOut_length] at this; have := HN.out; have := HN3.out; have := HP.out; simp only [maxLen]; omega) HS3.out.2 ?_; intro A9 c9 w9 hO9 hg9 hor9; have hT9' : Tch (A3.map (·.block)).toList w3 w9 := (Tch.below (below_drew w3) _).trans (Tch.grown hg9); have hT9 : Tch ((A3.map (·.block)).toList ++ [x + 1]) w3 w9 := hT9'.more (fun k hk => .inl (List.mem_append_left _ hk)); have hz9 := HZ3.out.tch hT9' (fun hm => by have := HI3.out.inn _ hm; have := HXY.out; omega); have f0 := hz9.frozen 0; have f1 := hz9.frozen 1; have f2 := hz9.frozen 2; have f3 := hz9.frozen 3; have f4 := hz9.frozen 4; have f5 := hz9.frozen 5; have f6 := hz9.frozen 6; have g0 : w9.cell? ⟨x + 1, 0, none⟩ = some (.int .u8 0) := (hz9.cell 0).trans rfl; have g1 : w9.cell? ⟨x + 1, 1, none⟩ = some (.int .u16 0) := (hz9.cell 1).trans rfl; have g2 : w9.cell? ⟨x + 1, 2, none⟩ = some (.int .u8 0) := (hz9.cell 2).trans rfl; have g3 : w9.cell? ⟨x + 1, 3, none⟩ = some (.int .u8 0) := (hz9.cell 3).trans rfl; have g4 : w9.cell? ⟨x + 1, 4, none⟩ = some (.int .u16 0) := (hz9.cell 4).trans rfl; have g5 : w9.cell? ⟨x + 1, 5, none⟩ = some (.int .u64 0) := (hz9.cell 5).trans rfl; have g6 : w9.cell? ⟨x + 1, 6, none⟩ = some (.slice none 0 0) := (hz9.cell 6).trans rfl; obtain ⟨l0, l1, l2, l3, l4, l5, l6⟩ := HX.out w9 hT9))
  all_goals
    have HC9 : Hid (n3 + plain.length ≤ c9) := Lib.hid hO9.2.1
    have HO9 : Hid (Own w9 w2.heap.size 1 A9 (n3 + plain.length) c9 (vs (hdOut ct maj mn ep sq cl cid ++ plain)) ∧ Hi w2.heap.size A9) := Lib.hid ⟨by rw [vs_append]; exact hO9, HI3.out.new hor9 (by show w2.heap.size ≤ w3.heap.size; exact HS3.out.2)⟩
    have HT9 := Lib.hid hT9'
    have HZ9 := Lib.hid hz9
    clear f0 f1 f2 f3 f4 f5 f6 g0 g1 g2 g3 g4 g5 g6 l0 l1 l2 l3 l4 l5 l6 hO9 hg9 hor9 hT9 hT9' hz9 H7 d0 d1 d2 d3 d4 d5 d6
    go_wp2_with fail
    have hk10 := ((((((HZ9.out.set_ 0 (.int .u8 ct.toNat)).set_ 1 (.int .u16 (cl : Int))).set_ 2 (.int .u8 maj.toNat)).set_ 3 (.int .u8 mn.toNat)).set_ 4 (.int .u16 (ep : Int))).set_ 5 (.int .u64 (sq : Int))).set_ 6 (.slice (some ⟨ra, 0, none⟩) n c)
    have hk10 : Blk (((((((w9.setCell ⟨x + 1, 0, none⟩ (.int .u8 ct.toNat)).setCell ⟨x + 1, 1, none⟩ (.int .u16 (cl : Int))).setCell ⟨x + 1, 2, none⟩ (.int .u8 maj.toNat)).setCell ⟨x + 1, 3, none⟩ (.int .u8 mn.toNat)).setCell ⟨x + 1, 4, none⟩ (.int .u16 (ep : Int))).setCell ⟨x + 1, 5, none⟩ (.int .u64 (sq : Int))).setCell ⟨x + 1, 6, none⟩ (.slice (some ⟨ra, 0, none⟩) n c)) (x + 1) 53 (hwRow ct maj mn ep sq cl (some ⟨ra, 0, none⟩) n c) := by simpa [hwRow] using hk10
    have T10 : Tch [x + 1] w9 (((((((w9.setCell ⟨x + 1, 0, none⟩ (.int .u8 ct.toNat)).setCell ⟨x + 1, 1, none⟩ (.int .u16 (cl : Int))).setCell ⟨x + 1, 2, none⟩ (.int .u8 maj.toNat)).setCell ⟨x + 1, 3, none⟩ (.int .u8 mn.toNat)).setCell ⟨x + 1, 4, none⟩ (.int .u16 (ep : Int))).setCell ⟨x + 1, 5, none⟩ (.int .u64 (sq : Int))).setCell ⟨x + 1, 6, none⟩ (.slice (some ⟨ra, 0, none⟩) n c)) := ((((((Tch.set _ _ _ _).trans (Tch.set _ _ _ _)).trans (Tch.set _ _ _ _)).trans (Tch.set _ _ _ _)).trans (Tch.set _ _ _ _)).trans (Tch.set _ _ _ _)).trans (Tch.set _ _ _ _)
    generalize (((((((w9.setCell ⟨x + 1, 0, none⟩ (.int .u8 ct.toNat)).setCell ⟨x + 1, 1, none⟩ (.int .u16 (cl : Int))).setCell ⟨x + 1, 2, none⟩ (.int .u8 maj.toNat)).setCell ⟨x + 1, 3, none⟩ (.int .u8 mn.toNat)).setCell ⟨x + 1, 4, none⟩ (.int .u16 (ep : Int))).setCell ⟨x + 1, 5, none⟩ (.int .u64 (sq : Int))).setCell ⟨x + 1, 6, none⟩ (.slice (some ⟨ra, 0, none⟩) n c)) = w10 at *
    have hlow : ∀ k ∈ (A3.map (·.block)).toList, w2.heap.size ≤ k := fun k hk => HI3.out.inn k hk
    have hxx := HXY.out
    have hra := HRA.out
    have hsx := HSX.out
    have hs3 := HS3.out
    have hzl := HZ9.out.lt
    have hye := HYE.out
    rw [HXX.out] at hsx
    have hne : ra ∉ (A3.map (·.block)).toList := fun hm => by have := hlow _ hm; omega
    have hnx : ra ≠ x + 1 := by omega
    refine bodyPost_cell3 rfl rfl rfl hk10 Tryd.underlying53 hwInfo ⟨ra, c, A9, _, c9, rfl, ?_, ?_, ?_, HC9.out, ?_, ?_⟩
    · rw [List.length_append, HL3.out]
    · exact (HR3.out.tch HT9.out hne).tch T10 (by simpa using hnx)
    · exact (HO9.out.1.tch T10 (HO9.out.2.away (fun k hk => by simp at hk; subst hk; exact hxx))).lower (by rw [HXX.out]; omega)
    · have h1 : Below w.heap.size w w9 := below_tchA HB3.out HT9.out (fun k hk => by have := hlow k hk; rw [HXX.out]; omega) (by rw [HXX.out]; omega)
      exact below_tchA h1 T10 (fun k hk => by simp at hk; subst hk; rw [HXX.out]; omega) (by rw [HXX.out]; omega)
    · rcases HO9.out.2 with h | ⟨a, h, ha⟩
      · exact .inl h
      · exact .inr ⟨a, h, by rw [HXX.out]; omega⟩
theorem record_any (ct maj mn : UInt8) (ep sq cl n : Nat) (cid plain : List UInt8) (hn : cid.length = n) (hn3 : n ≤ 255) (hp : plain.length ≤ 100000) (hsq : decide ((281474976710655 : Int) < (sq : Int)) = false) (w : World) :
    Calls Tryd.prog 24 #[.agg (rwRow ct maj mn ep sq cl cid), .string (S plain)] w fun e w' => ∃ ra c A' n' c', e = .returned (.tuple #[.agg (hwRow ct maj mn ep sq cl (some ⟨ra, 0, none⟩) n c), .slice A' n' c', .bool true]) ∧ (hdOut ct maj mn ep sq cl cid ++ plain).length = n' ∧ Rd w' (some ⟨ra, 0, none⟩) (vs cid) ∧ Own w' w.heap.size 1 A' n' c' (vs (hdOut ct maj mn ep sq cl cid ++ plain)) ∧ n' ≤ c' ∧ Below w.heap.size w w' :=
  (record_hi ct maj mn ep sq cl n cid plain hn hn3 hp hsq w).mono fun _ _ ⟨ra, c, A', n', c', h1, h2, h3, h4, h5, h6, _⟩ => ⟨ra, c, A', n', c', h1, h2, h3, h4, h5, h6⟩
end Go.Proofs.YtpedkkmoplbdhaaDoor
