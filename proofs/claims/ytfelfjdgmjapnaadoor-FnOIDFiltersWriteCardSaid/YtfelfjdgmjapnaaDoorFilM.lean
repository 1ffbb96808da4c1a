/- Walks: a list of filters, made as the library has it. -/
import Derived.Test.YtfelfjdgmjapnaaDoorFil
import Derived.Test.YtfelfjdgmjapnaaDoorBp5
import Derived.Test.YtfelfjdgmjapnaaDoorElems
import Derived.Deep.RegionHeld3
import Derived.Deep.RegionHeldLaw
namespace Go.Proofs.YtfelfjdgmjapnaaDoor
open Go.RowKit Go.Cv
set_option maxRecDepth 100000
set_option linter.unusedVariables false
/-- A slice that reads as l, in a row of its own from base on, away from A. -/
def El (base : Nat) (A : Option Addr) (w : World) (l : List UInt8) (v : Value) : Prop :=
  ∃ eb c, v = .slice (some ⟨eb, 0, none⟩) l.length c ∧ base ≤ eb ∧ eb < w.heap.size ∧ A.map (·.block) ≠ some eb ∧ Rd w (some ⟨eb, 0, none⟩) (vs l)
theorem El.step {base : Nat} {A : Option Addr} {w w' : World} {L : List Nat} {l : List UInt8} {v : Value} (h : El base A w l v) (ht : Tch L w w') (hL : ∀ k ∈ L, k < base ∨ A.map (·.block) = some k) : El base A w' l v := by
  obtain ⟨eb, c, h1, h2, h3, h4, h5⟩ := h
  have hn : eb ∉ L := fun hm => by rcases hL eb hm with h | h; omega; exact h4 h
  exact ⟨eb, c, h1, h2, Nat.lt_of_lt_of_le h3 ht.size, h4, h5.tch ht hn⟩
theorem El.append {base c c' : Nat} {A A' : Option Addr} {w w' : World} {l : List UInt8} {v : Value} (h : El base A w l v) (hg : w.grownBy w' (A.map (·.block))) (hA : (A' = A ∧ c' = c) ∨ A' = some ⟨w.heap.size, 0, none⟩) : El base A' w' l v := by
  obtain ⟨eb, cc, h1, h2, h3, h4, h5⟩ := h
  have ht : Tch (A.map (·.block)).toList w w' := Tch.grown hg
  have hn : eb ∉ (A.map (·.block)).toList := fun hm => h4 (by simpa using hm)
  refine ⟨eb, cc, h1, h2, Nat.lt_of_lt_of_le h3 ht.size, ?_, h5.tch ht hn⟩
  rcases hA with ⟨rfl, _⟩ | rfl
  · exact h4
  · simp; omega
def FE (base : Nat) (A : Option Addr) (w : World) (zs : List (List UInt8 × List UInt8)) (xs : List Value) : Prop :=
  xs.length = zs.length * 2 ∧ ∀ (j : Nat) (x y : List UInt8), zs[j]? = some (x, y) → ∃ v1 v2, xs[j * 2]? = some v1 ∧ xs[j * 2 + 1]? = some v2 ∧ El base A w x v1 ∧ El base A w y v2
theorem FE.nil (base : Nat) (A : Option Addr) (w : World) (zs : List (List UInt8 × List UInt8)) : FE base A w (zs.take 0) [] := ⟨by simp, by simp⟩
theorem FE.snoc {base c c' : Nat} {A A' : Option Addr} {w w1 w' : World} {zs : List (List UInt8 × List UInt8)} {xs : List Value} {j : Nat} {x y : List UInt8} {v1 v2 : Value} (h : FE base A w (zs.take j) xs) (hj : zs[j]? = some (x, y)) {L : List Nat} (ht : Tch L w w1) (hL : ∀ k ∈ L, k < base ∨ A.map (·.block) = some k)
    (e1 : El base A w1 x v1) (e2 : El base A w1 y v2) (hg : w1.grownBy w' (A.map (·.block))) (hA : (A' = A ∧ c' = c) ∨ A' = some ⟨w1.heap.size, 0, none⟩) : FE base A' w' (zs.take (j + 1)) (xs ++ [v1, v2]) := by
  obtain ⟨hl, hv⟩ := List.getElem?_eq_some_iff.1 hj
  have hxl : xs.length = j * 2 := by rw [h.1, List.length_take]; omega
  refine ⟨by rw [List.length_append, hxl, List.length_take]; simp; omega, fun i a b hi => ?_⟩
  rw [List.getElem?_take] at hi
  split at hi
  case isFalse => simp at hi
  by_cases hij : i < j
  · obtain ⟨u1, u2, g1, g2, g3, g4⟩ := h.2 i a b (by rw [List.getElem?_take, if_pos hij]; exact hi)
    refine ⟨u1, u2, ?_, ?_, (g3.step ht hL).append hg hA, (g4.step ht hL).append hg hA⟩
    · rw [List.getElem?_append_left (by omega)]; exact g1
    · rw [List.getElem?_append_left (by omega)]; exact g2
  · obtain rfl : i = j := by omega
    rw [hj] at hi
    obtain ⟨rfl, rfl⟩ := Prod.mk.inj (Option.some.inj hi)
    refine ⟨v1, v2, ?_, ?_, e1.append hg hA, e2.append hg hA⟩
    · rw [List.getElem?_append_right (by omega), hxl]; simp
    · rw [List.getElem?_append_right (by omega), hxl]; simp
theorem FE.step {base : Nat} {A : Option Addr} {w w' : World} {L : List Nat} {zs : List (List UInt8 × List UInt8)} {xs : List Value} (h : FE base A w zs xs) (ht : Tch L w w') (hL : ∀ k ∈ L, k < base) : FE base A w' zs xs :=
  ⟨h.1, fun j x y hj => by
    obtain ⟨v1, v2, g1, g2, g3, g4⟩ := h.2 j x y hj
    exact ⟨v1, v2, g1, g2, g3.step ht (fun k hk => .inl (hL k hk)), g4.step ht (fun k hk => .inl (hL k hk))⟩⟩
theorem own_lo {w : World} {B sz n c : Nat} {A : Option Addr} {xs : List Value} (h : Own w B sz A n c xs) (hn : 0 < n) (hz : 0 < sz) : Lo A w := fun a ha => by
  obtain ⟨h1, h2, _, h0 | ⟨b, o, rfl, _, _, hs, _⟩⟩ := h
  · omega
  · simp at ha
    subst ha
    obtain ⟨u, hu⟩ := Option.isSome_iff_exists.1 (hs 0 (Nat.mul_pos (by omega) hz))
    exact block_lt hu
theorem El.of_own {base eb c : Nat} {A : Option Addr} {w : World} {B : Nat} {l : List UInt8} (h : Own w B 1 (some ⟨eb, 0, none⟩) l.length c (vs l)) (hb : base ≤ eb) (hl : eb < w.heap.size) (hn : A.map (·.block) ≠ some eb) : El base A w l (.slice (some ⟨eb, 0, none⟩) l.length c) :=
  ⟨eb, c, rfl, hb, hl, hn, h.rd⟩
/-- What is made of the first n filters: the row A, in the block g. -/
structure FinR (W w : World) (g base T n : Nat) (A : Option Addr) (c : Nat) (xs : List Value) (zs : List (List UInt8 × List UInt8)) : Prop where
  hi : Hi base A
  lo : Lo A w
  blk : Blk w g T #[.slice A n c]
  own : Own w base 2 A n c xs
  fe : FE base A w zs xs
  tch : Tch [g] W w
theorem FinR.keep {W w w' : World} {g base T n c : Nat} {A : Option Addr} {xs : List Value} {zs : List (List UInt8 × List UInt8)} (h : FinR W w g base T n A c xs zs) (hb : Below w.heap.size w w') : FinR W w' g base T n A c xs zs :=
  ⟨h.hi, h.lo.mono hb.size, h.blk.keep hb, h.own.keep hb, h.fe.step (Tch.below hb []) (by simp), h.tch.then (Tch.below hb []) (by simp)⟩
theorem fil_step {W w1 wz w9 : World} {g base T j c' c2 : Nat} {A' A2 : Option Addr} {xs : List Value} {zs : List (List UInt8 × List UInt8)} {x y : List UInt8} {v1 v2 : Value} {ob : Obj} (hj : zs[j]? = some (x, y)) (hgb : g < base) (hbw : base ≤ w1.heap.size)
    (hWb : W.heap.size ≤ base) (h : FinR W w1 g base T j A' c' xs (zs.take j)) (hb : Below w1.heap.size w1 wz) (e1 : El base A' wz x v1) (e2 : El base A' wz y v2)
    (hO9 : Own w9 base 2 A2 (j + 1) c2 (xs ++ [v1, v2])) (hg9 : (wz.alloc ob).grownBy w9 (A'.map (·.block))) (hor9 : (A2 = A' ∧ c2 = c') ∨ A2 = some ⟨(wz.alloc ob).heap.size, 0, none⟩) :
    FinR W (w9.setCell ⟨g, 0, none⟩ (.slice A2 (j + 1) c2)) g base T (j + 1) A2 c2 (xs ++ [v1, v2]) (zs.take (j + 1)) := by
  have hbz : Below w1.heap.size w1 (wz.alloc ob) := below_two hb (below_alloc wz ob)
  have t9 : Tch (A'.map (·.block)).toList w1 w9 := (Tch.below hbz _).trans (Tch.grown hg9)
  have TS := Tch.set w9 g 0 (.slice A2 (j + 1) c2)
  have hA2 : Hi base A2 := h.hi.new hor9 (Nat.le_trans hbw hbz.size)
  have hlo : Lo A2 w9 := own_lo hO9 (Nat.succ_pos j) (by omega)
  have hk9 := h.blk.tch t9 (h.hi.notin hgb)
  refine ⟨hA2, hlo.mono TS.size, by simpa using hk9.set_ 0 (.slice A2 (j + 1) c2), hO9.tch TS (hA2.away (by simp; omega)), ?_, (h.tch.then t9 (fun k hk => .inr (Nat.le_trans ?_ (h.hi.inn k hk)))).trans TS⟩
  · exact (FE.snoc h.fe hj (L := []) (Tch.below hbz []) (by simp) (e1.step (Tch.alloc wz ob) (by simp)) (e2.step (Tch.alloc wz ob) (by simp)) hg9 hor9).step TS (by simp; omega)
  · exact hWb
theorem conv_ex {P : Program} (w : World) (t1 t2 e : TypeId) (hs : P.underlying t1 = some .string) (hd : P.underlying t2 = some (.slice e)) (he : P.underlying e = some (.int .u8)) (l : List UInt8) (hl : l.length ≤ maxLen) :
    ∃ c w1, (convert t1 t2 (.string (S l))).run P w = .ok (.slice (some ⟨w.heap.size, 0, none⟩) l.length c) w1 ∧ Own w1 w.heap.size 1 (some ⟨w.heap.size, 0, none⟩) l.length c (vs l) ∧ Below w.heap.size w w1 ∧ w.heap.size < w1.heap.size := by
  rw [run_bytes_of_string w t1 t2 e (S l) hs hd he]
  rw [S_size]
  have hge := grownCap_ge w l.length 0 e
  have hcm := grownCap_le_maxLen w l.length 0 e hl
  generalize grownCap w l.length 0 e = c at *
  have hsz : (bytesRow (S l) c).size = c := by
    simp only [bytesRow, Array.size_append, Array.size_map, Array.size_replicate]
    have : (S l).data.size = l.length := by simp [S]
    rw [this, S_size]; omega
  refine ⟨c, _, rfl, (Own.new w.drew w.heap.size 1 e _ _ l.length c (vs l) (by rw [vs_length]; omega) hge hcm (by rw [hsz]; omega) (by simp) (fun j hj hh => ?_) (fun j v hj => ?_)), ?_, (by simp)⟩
  · rw [hsz] at hh; simp at hh; omega
  · have hjl : j < (vs l).length := (List.getElem?_eq_some_iff.1 hj).1
    rw [vs_length] at hjl
    simp only [bytesRow]
    rw [Array.getElem?_append_left (by simp [S]; exact hjl)]
    rw [vs_get l j hjl] at hj
    injection hj with hj
    subst hj
    simp [S, List.getD, hjl]
  · exact ((Below.refl _ w).drew).alloc (by simp) _
theorem filtInfo : (Tryd.prog.info? 106).map (fun i => (i.zero, i.size, i.bytes)) = some (some (.agg #[.slice none 0 0, .slice none 0 0]), 2, 48) := by kernel_rfl
set_option maxHeartbeats 2000000 in
theorem makeFil_any (b o n c : Nat) (zs : List (List UInt8 × List UInt8)) (hl : zs.length = n) (hn : n < 1000) (hz : FilP zs) (cs : Array Value) (h12 : cs[12]? = some (.slice (some ⟨b, o, none⟩) n c)) (w : World) (hr : Rd w (some ⟨b, o, none⟩) (fv zs)) :
    Calls Tryd.prog 30 #[.agg cs] w fun e w' => ∃ g A c' xs, e = .returned (.pointer (some ⟨g, 0, none⟩)) ∧ Hi (w.heap.size + 2) A ∧ Lo A w' ∧ Blk w' g 104 #[.slice A n c'] ∧ Own w' (w.heap.size + 2) 2 A n c' xs ∧ FE (w.heap.size + 2) A w' zs xs ∧ Below w.heap.size w w' := by
  have HR := Lib.hid hr
  have HL := Lib.hid hl
  have HN := Lib.hid hn
  have HZ := Lib.hid hz
  clear hr hl hn hz
  go_enter Tryd.func30, Tryd.ntmps30
  go_wp2_with fail
  have hm12 := ((Blk.new w 47 cs).alloc (.cells #[.slice none 0 0] 104)).cell 12
  rw [h12] at hm12
  have hkb := Blk.new (w.alloc (.cells cs 47)) 104 #[.slice none 0 0]
  rw [World.size_alloc] at hkb
  have hbW : Below w.heap.size w ((w.alloc (.cells cs 47)).alloc (.cells #[.slice none 0 0] 104)) := below_two (below_alloc _ _) (below_alloc _ _)
  have hsz : ((w.alloc (.cells cs 47)).alloc (.cells #[.slice none 0 0] 104)).heap.size = w.heap.size + 2 := by rw [World.size_alloc, World.size_alloc]
  have HKB := Lib.hid hkb
  have HBW := Lib.hid hbW
  have HSZ := Lib.hid hsz
  clear hkb hbW hsz h12
  generalize (w.alloc (.cells cs 47)).alloc (.cells #[.slice none 0 0] 104) = W at *
  go_loopw [11] (fun i wr => ∃ j : Nat, j ≤ n ∧ i = .int .i64 j ∧ ∃ A' c' xs, Hid (FinR W wr (w.heap.size + 1) (w.heap.size + 2) 104 j A' c' xs (zs.take j))) (fun i _ => n - (intOf i).toNat)
  case atStart => exact ⟨0, Nat.zero_le _, rfl, none, 0, [], Lib.hid ⟨.inl rfl, Lo.none _, HKB.out, Own.nil _ _ _, FE.nil _ _ _ _, Tch.refl _ _⟩⟩
  case round =>
    obtain ⟨j, hj, rfl, A', c', xs, HF⟩ := hrel
    have LR := HF.out.tch.size
    by_cases hlt : j < n
    · obtain ⟨⟨x, y⟩, hv⟩ : ∃ p, zs[j]? = some p := ⟨_, List.getElem?_eq_getElem (by rw [HL.out]; exact hlt)⟩
      have hbnd : Below w.heap.size w wr := ((Tch.below HBW.out []).then HF.out.tch (by simp)).toBelow (Nat.le_refl _)
      obtain ⟨c0, c1⟩ := filCell (HR.out.keep hbnd) j x y hv
      have jw := finc hlt (by have := HN.out; omega)
      have HV := Lib.hid hv
      clear hv hbnd
      go_wp2_with fail
      have HX := Lib.hid (Blk.new wr 79 #[.string (S x), .string (S y)])
      obtain ⟨xb, hxb⟩ : ∃ k, wr.heap.size = k := ⟨_, rfl⟩
      rw [hxb] at HX
      simp only [hxb]
      have hj1 : j < 1000 := by have := HN.out; omega
      have hxl : x.length ≤ 255 := (HZ.out.oid _ (List.mem_of_getElem? HV.out)).2
      have hyl : y.length ≤ 60000 := by
        have h1 := filTot_next HV.out
        have h2 := filTot_take zs (j + 1)
        have h3 := HZ.out.tot
        omega
      have HSX : Hid (x.length ≤ maxLen) := Lib.hid (by simp only [maxLen]; omega)
      have HSY : Hid (y.length ≤ maxLen) := Lib.hid (by simp only [maxLen]; omega)
      have LX : xb < (wr.alloc (.cells #[.string (S x), .string (S y)] 79)).heap.size := by rw [World.size_alloc]; omega
      have HF1 := Lib.hid (HF.out.keep (below_alloc wr (.cells #[.string (S x), .string (S y)] 79)))
      have HLO : Hid (∀ k, xb < k → A'.map (·.block) ≠ some k) := Lib.hid (fun k hk => HF.out.lo.ne (by omega))
      have HSW := HSZ.out
      have LW : w.heap.size + 2 ≤ (wr.alloc (.cells #[.string (S x), .string (S y)] 79)).heap.size := by rw [World.size_alloc]; omega
      have HWB : Hid (W.heap.size ≤ w.heap.size + 2) := Lib.hid (by omega)
      clear hxb c0 c1 HF LR hxl hyl
      generalize wr.alloc (.cells #[.string (S x), .string (S y)] 79) = w1 at *
      have HKP : Hid (∀ w', Below w1.heap.size w1 w' → w'.cell? ⟨w.heap.size + 1, 0, none⟩ = some (.slice A' j c') ∧ w'.cell? ⟨xb, 0, none⟩ = some (.string (S x)) ∧ w'.cell? ⟨xb, 1, none⟩ = some (.string (S y))) := Lib.hid (fun w' hb => ⟨((HF1.out.blk.keep hb).cell 0).trans rfl, ((HX.out.keep hb).cell 0).trans rfl, ((HX.out.keep hb).cell 1).trans rfl⟩)
      obtain ⟨g1, g1x, g1y⟩ := HKP.out _ (below_drew w1)
      obtain ⟨ca2, w2, er2, ho2, hb2, hl2⟩ := conv_ex (P := Tryd.prog) w1.drew 9 26 5 Tryd.underlying9 Tryd.underlying26 Tryd.underlying5 x HSX.out
      obtain ⟨cb3, w3, er3, ho3, hb3, hl3⟩ := conv_ex (P := Tryd.prog) w2 9 26 5 Tryd.underlying9 Tryd.underlying26 Tryd.underlying5 y HSY.out
      obtain ⟨cb4, w4, er4, ho4, hb4, hl4⟩ := conv_ex (P := Tryd.prog) w1.drew 9 26 5 Tryd.underlying9 Tryd.underlying26 Tryd.underlying5 y HSY.out
      obtain ⟨ca5, w5, er5, ho5, hb5, hl5⟩ := conv_ex (P := Tryd.prog) w4 9 26 5 Tryd.underlying9 Tryd.underlying26 Tryd.underlying5 x HSX.out
      have b2 : Below w1.heap.size w1 w2 := below_two (below_drew w1) hb2
      have b4 : Below w1.heap.size w1 w4 := below_two (below_drew w1) hb4
      have b3 := below_two b2 hb3
      have b5 := below_two b4 hb5
      obtain ⟨g2, g2x, g2y⟩ := HKP.out _ b2
      obtain ⟨g3, g3x, g3y⟩ := HKP.out _ b3
      obtain ⟨g4, g4x, g4y⟩ := HKP.out _ b4
      obtain ⟨g5, g5x, g5y⟩ := HKP.out _ b5
      have LL3 : w.heap.size + 2 ≤ w3.heap.size := Nat.le_trans LW b3.size
      have LL5 : w.heap.size + 2 ≤ w5.heap.size := Nat.le_trans LW b5.size
      have gA3 : ∀ o, (w3.alloc o).cell? ⟨w.heap.size + 1, 0, none⟩ = some (.slice A' j c') := fun o => (HKP.out _ (below_two b3 (below_alloc w3 o))).1
      have gA5 : ∀ o, (w5.alloc o).cell? ⟨w.heap.size + 1, 0, none⟩ = some (.slice A' j c') := fun o => (HKP.out _ (below_two b5 (below_alloc w5 o))).1
      have B3 := Lib.hid b3
      have B5 := Lib.hid b5
      have S1 : w1.drew.heap.size = w1.heap.size := rfl
      have E3x := Lib.hid (El.of_own (base := w.heap.size + 2) (A := A') (ho2.keep hb3) (by omega) (Nat.lt_of_lt_of_le hl2 hb3.size) (HLO.out _ (by omega)))
      have E3y := Lib.hid (El.of_own (base := w.heap.size + 2) (A := A') ho3 (by omega) hl3 (HLO.out _ (by omega)))
      have E5y := Lib.hid (El.of_own (base := w.heap.size + 2) (A := A') (ho4.keep hb5) (by omega) (Nat.lt_of_lt_of_le hl4 hb5.size) (HLO.out _ (by omega)))
      have E5x := Lib.hid (El.of_own (base := w.heap.size + 2) (A := A') ho5 (by omega) hl5 (HLO.out _ (by omega)))
      clear S1 HSZ HSW b2 b3 b4 b5 ho2 ho3 ho4 ho5 hb2 hb3 hb4 hb5 hl2 hl3 hl4 hl5
      go_region_law (first
        | (refine step_append rfl (.tmp 19) (.tmp 27) 102 102 rfl (w.heap.size + 2) 106 _ 2 48 Tryd.underlying102 (.inl Tryd.underlying102) filtInfo rfl (by omega) (xs := xs) (ys := [.slice _ x.length ca2, .slice _ y.length cb3]) rfl rfl (HF1.out.own.keep (below_two B3.out (below_alloc _ _))) ⟨rfl, by intro v h; simp at h; rcases h with rfl | rfl <;> rfl, .inl ⟨_, _, rfl, rd_pair _ _ _ _⟩⟩ (by omega) (by simp only [maxLen]; omega) (by simp; omega) ?_; intro A2 c2 w9 hO9 hg9 hor9; have t9 : Tch (A'.map (·.block)).toList w1 w9 := (Tch.below (below_two B3.out (below_alloc _ _)) _).trans (Tch.grown hg9); have hk9 := HF1.out.blk.tch t9 (HF1.out.hi.notin (by omega)); have q9 := hk9.cell 0; have f9 := hk9.frozen 0; have hfin := Lib.hid (fil_step HV.out (by omega) LW HWB.out HF1.out B3.out E3x.out E3y.out hO9 hg9 hor9))
        | (refine step_append rfl (.tmp 19) (.tmp 27) 102 102 rfl (w.heap.size + 2) 106 _ 2 48 Tryd.underlying102 (.inl Tryd.underlying102) filtInfo rfl (by omega) (xs := xs) (ys := [.slice _ x.length ca5, .slice _ y.length cb4]) rfl rfl (HF1.out.own.keep (below_two B5.out (below_alloc _ _))) ⟨rfl, by intro v h; simp at h; rcases h with rfl | rfl <;> rfl, .inl ⟨_, _, rfl, rd_pair _ _ _ _⟩⟩ (by omega) (by simp only [maxLen]; omega) (by simp; omega) ?_; intro A2 c2 w9 hO9 hg9 hor9; have t9 : Tch (A'.map (·.block)).toList w1 w9 := (Tch.below (below_two B5.out (below_alloc _ _)) _).trans (Tch.grown hg9); have hk9 := HF1.out.blk.tch t9 (HF1.out.hi.notin (by omega)); have q9 := hk9.cell 0; have f9 := hk9.frozen 0; have hfin := Lib.hid (fil_step HV.out (by omega) LW HWB.out HF1.out B5.out E5x.out E5y.out hO9 hg9 hor9)))
      all_goals
        go_wp2_with fail
        go_roundw
        case rel => exact ⟨j + 1, hlt, by go_num, A2, c2, _, hfin⟩
        case measure => exact fmeas hlt
    · obtain rfl : j = n := Nat.le_antisymm hj (Nat.le_of_not_lt hlt)
      have e : zs.take j = zs := List.take_of_length_le (by rw [HL.out]; exact Nat.le_refl _)
      have HT := Lib.hid e
      clear e
      go_wp2_with fail
      go_ret
      have h := HF.out
      rw [HT.out] at h
      exact ⟨_, A', c', xs, rfl, h.hi, h.lo, h.blk, h.own, h.fe, ((Tch.below HBW.out []).then h.tch (by simp)).toBelow (Nat.le_refl _)⟩
end Go.Proofs.YtfelfjdgmjapnaaDoor
