/- Walks: a list of filters, written by the library. -/
import Derived.Test.YtfelfjdgmjapnaaDoorFilM
import Derived.Test.YtfelfjdgmjapnaaDoorMap
import Derived.Test.YtfelfjdgmjapnaaDoorRow
namespace Go.Proofs.YtfelfjdgmjapnaaDoor
open Go.RowKit Go.Cv Go.Maps
set_option maxRecDepth 100000
set_option linter.unusedVariables false
theorem BP.more {P : Nat → Prop} {w w' : World} {q off pl : Nat} {ic : Value} {l : List UInt8} (h : BP P w q ic off pl l) (hb : Below w.heap.size w w') (f : Nat) (hf : w.heap.size ≤ f) (hf' : f < w'.heap.size) : BP (fun k => P k ∨ k = f) w' q ic off pl l := by
  obtain ⟨A, c, h1, h2, h3, h4, h5⟩ := h
  have hq := h1.lt
  refine ⟨A, c, h1.keep hb, h2.keep hb, ?_, ?_, ?_⟩
  · rcases h3 with rfl | ⟨a, rfl, p1, p2, p3⟩
    · exact .inl rfl
    · exact .inr ⟨a, rfl, fun h => by rcases h with h | h; exact p1 h; omega, p2, Nat.lt_of_lt_of_le p3 hb.size⟩
  · rintro (h | h)
    · exact h4 h
    · omega
  · rintro k (h | h)
    · exact Nat.lt_of_lt_of_le (h5 k h) hb.size
    · omega
theorem BP.less {P P' : Nat → Prop} {w : World} {q off pl : Nat} {ic : Value} {l : List UInt8} (h : BP P' w q ic off pl l) (hs : ∀ k, P k → P' k) : BP P w q ic off pl l := by
  obtain ⟨A, c, h1, h2, h3, h4, h5⟩ := h
  refine ⟨A, c, h1, h2, ?_, fun h => h4 (hs _ h), fun k h => h5 k (hs k h)⟩
  rcases h3 with rfl | ⟨a, rfl, p1, p2, p3⟩
  · exact .inl rfl
  · exact .inr ⟨a, rfl, fun h => p1 (hs _ h), p2, p3⟩
theorem BP.grown {P : Nat → Prop} {w w' : World} {q off pl m : Nat} {ic : Value} {l : List UInt8} (h : BP P w q ic off pl l) (hg : w.grownBy w' (some m)) (hm : P m) : BP P w' q ic off pl l := by
  obtain ⟨A, c, h1, h2, h3, h4, h5⟩ := h
  refine ⟨A, c, h1.grown hg (fun e => h4 (by injection e with e; rwa [e])), h2.grown hg ?_, h3.more hg.size, h4, fun k h => Nat.lt_of_lt_of_le (h5 k h) hg.size⟩
  rcases h3 with rfl | ⟨a, rfl, p1, p2, p3⟩
  · exact .inr rfl
  · refine .inl (fun e => p1 ?_)
    simp at e
    rwa [e]
theorem ownsMap_kp {H : Type} {p : Program} {k : TypeId} {R : Value → Option (DataW H × List MemPlace)} {P : Nat → Prop} {w w' : World} {b n : Nat} {D : DataW H} (h : w.ownsMap p k R b n D) (hk : Kp P w w') (hP : P b) : w'.ownsMap p k R b n D := by
  have hlt := h.lt
  obtain ⟨es, clock, h1, h2, h3, h4⟩ := h
  exact ⟨es, clock, (hk.block b hlt hP).trans h1, h2, h3, h4⟩
/-- The elements of the library's list, all in kept rows. -/
def FEl (P0 : Nat → Prop) (w : World) (a : Nat) (zs : List (List UInt8 × List UInt8)) : Prop :=
  ∀ (j : Nat) (x y : List UInt8), zs[j]? = some (x, y) → ∃ e1 c1 e2 c2, w.cell? ⟨a, j * 2, none⟩ = some (.slice (some ⟨e1, 0, none⟩) x.length c1) ∧ w.cell? ⟨a, j * 2 + 1, none⟩ = some (.slice (some ⟨e2, 0, none⟩) y.length c2) ∧ P0 e1 ∧ P0 e2 ∧
    Rd w (some ⟨e1, 0, none⟩) (vs x) ∧ Rd w (some ⟨e2, 0, none⟩) (vs y)
theorem FEl.kp {P0 : Nat → Prop} {w w' : World} {a : Nat} {zs : List (List UInt8 × List UInt8)} (h : FEl P0 w a zs) (hk : Kp P0 w w') (ha : P0 a) : FEl P0 w' a zs := fun j x y hj => by
  obtain ⟨e1, c1, e2, c2, h1, h2, h3, h4, h5, h6⟩ := h j x y hj
  exact ⟨e1, c1, e2, c2, hk.cell h1 ha, hk.cell h2 ha, h3, h4, h5.kp hk h3, h6.kp hk h4⟩
theorem FEl.sub {P0 P : Nat → Prop} {w : World} {a : Nat} {zs : List (List UInt8 × List UInt8)} (h : FEl P0 w a zs) (hs : ∀ k, P0 k → P k) : FEl P w a zs := fun j x y hj => by
  obtain ⟨e1, c1, e2, c2, h1, h2, h3, h4, h5, h6⟩ := h j x y hj
  exact ⟨e1, c1, e2, c2, h1, h2, hs _ h3, hs _ h4, h5, h6⟩
theorem fEnters {f : FuncId} {fn : Func} {c : Code} (hf : Tryd.prog.funcs[f]? = some fn) (hname : (fn.name == "runtime.NumGoroutine") = false) (hb : fn.body = some c) (args : Array Value) (w : World) :
    (callFunc f args).run Tryd.prog w = .ok (.enter f args) w := by
  have h1 : fn.name ≠ "runtime.NumGoroutine" := by simpa using hname
  simp [callFunc, hf, h1, hb]
theorem fillOid (P0 : Nat → Prop) (w0 : World) (fb e1 n c1 icb : Nat) (x : List UInt8) (hn : x.length = n) (hx : w0.cell? ⟨fb, 0, none⟩ = some (.slice (some ⟨e1, 0, none⟩) n c1)) (hr : Rd w0 (some ⟨e1, 0, none⟩) (vs x)) (hPf : P0 fb) (hPe : P0 e1) :
    Fills P0 w0 46 #[.pointer (some ⟨fb, 0, none⟩)] icb x := by
  intro w1 P q off pl k hsub hk hic hPi h0 hs hbp
  have h1 := hk.cell hx hPf
  have HA := Lib.hid (addPBytes_any P q (.pointer (some ⟨icb, 0, none⟩)) off pl k x (some ⟨e1, 0, none⟩) n c1 hn (by omega) (by omega) w1 hbp (hr.kp hk hPe))
  clear hx hr hPf hPe hsub hk hic hPi h0 hs hbp
  show Calls Tryd.prog 46 #[.pointer (some ⟨q, 0, none⟩), .pointer (some ⟨fb, 0, none⟩)] w1 _
  go_enter Tryd.func46, Tryd.ntmps46
  go_wp2_with fail
  refine HA.out.mono ?_
  rintro e w2 ⟨rfl, h3, h4⟩
  go_wp2_with fail
  go_end0
  exact ⟨rfl, h3, h4⟩
theorem fillVal (P0 : Nat → Prop) (w0 : World) (fb e1 n c1 icb : Nat) (x : List UInt8) (hn : x.length = n) (hx : w0.cell? ⟨fb, 1, none⟩ = some (.slice (some ⟨e1, 0, none⟩) n c1)) (hr : Rd w0 (some ⟨e1, 0, none⟩) (vs x)) (hPf : P0 fb) (hPe : P0 e1) :
    Fills P0 w0 48 #[.pointer (some ⟨fb, 0, none⟩)] icb x := by
  intro w1 P q off pl k hsub hk hic hPi h0 hs hbp
  have h1 := hk.cell hx hPf
  have HA := Lib.hid (addPBytes_any P q (.pointer (some ⟨icb, 0, none⟩)) off pl k x (some ⟨e1, 0, none⟩) n c1 hn (by omega) (by omega) w1 hbp (hr.kp hk hPe))
  clear hx hr hPf hPe hsub hk hic hPi h0 hs hbp
  show Calls Tryd.prog 48 #[.pointer (some ⟨q, 0, none⟩), .pointer (some ⟨fb, 0, none⟩)] w1 _
  go_enter Tryd.func48, Tryd.ntmps48
  go_wp2_with fail
  refine HA.out.mono ?_
  rintro e w2 ⟨rfl, h3, h4⟩
  go_wp2_with fail
  go_end0
  exact ⟨rfl, h3, h4⟩
theorem unitZeroF (w : World) : (zeroValue 86).run Tryd.prog w = .ok (.agg #[]) w := by kernel_rfl
theorem fMapInfo : Tryd.prog.underlying 115 = some (.map 9 86) := Tryd.underlying115
/-- The keys that are in so far. -/
def Seen (D : DataW Unit) (zs : List (List UInt8 × List UInt8)) (j : Nat) : Prop := IsMap D ∧ ∀ k : List UInt8, (∀ (i : Nat) (p : List UInt8 × List UInt8), i < j → zs[i]? = some p → p.1 ≠ k) → Maps.has D (.string k) = false
theorem seen_nil (zs : List (List UInt8 × List UInt8)) : Seen (.map []) zs 0 := ⟨isMap_empty, fun k _ => rfl⟩
theorem seen_snoc {D : DataW Unit} {zs : List (List UInt8 × List UInt8)} {j : Nat} {x y : List UInt8} (h : Seen D zs j) (hj : zs[j]? = some (x, y)) : Seen (D.put (.string x) (.agg [])) zs (j + 1) := by
  refine ⟨h.1.put _ _, fun k hk => ?_⟩
  have hne : x ≠ k := hk j (x, y) (Nat.lt_succ_self j) hj
  rw [has_put_other (fun e => hne (by injection e with e; exact e.symm))]
  exact h.2 k (fun i p hi hp => hk i p (Nat.lt_succ_of_lt hi) hp)
theorem fil_room {zs : List (List UInt8 × List UInt8)} {j : Nat} {x y : List UInt8} (hj : zs[j]? = some (x, y)) : (filOut (zs.take j)).length + (1 + x.length) + (2 + y.length) ≤ (filOut zs).length := by
  have h1 := filTot_next hj
  have h2 := filTot_take zs (j + 1)
  obtain ⟨hl, _⟩ := List.getElem?_eq_some_iff.1 hj
  rw [filOut_len, filOut_len, List.length_take]
  omega
set_option maxHeartbeats 2000000 in
theorem filFill2 (P0 : Nat → Prop) (w0 : World) (x g a n c icb : Nat) (zs : List (List UInt8 × List UInt8)) (hl : zs.length = n) (hn : n < 1000) (hz : FilP zs) (hx : w0.cell? ⟨x, 0, none⟩ = some (.pointer (some ⟨g, 0, none⟩))) (hg : w0.cell? ⟨g, 0, none⟩ = some (.slice (some ⟨a, 0, none⟩) n c)) (he : FEl P0 w0 a zs) (hPx : P0 x) (hPg : P0 g) (hPa : P0 a) :
    Fills P0 w0 43 #[.pointer (some ⟨x, 0, none⟩)] icb (filOut zs) := by
  intro w1 P q off pl l hsub hk hic hPi hl0 hs hbp
  have hba := below_alloc w1 (.map #[] 0)
  have h1 := keep_of_below hba _ _ (hk.cell hx hPx)
  have h2 := keep_of_below hba _ _ (hk.cell hg hPg)
  have HEL := Lib.hid ((he.kp hk hPa).sub hsub)
  have HPA := Lib.hid (hsub _ hPa)
  have HIC := Lib.hid hic
  have HPI := Lib.hid hPi
  have HBP := Lib.hid hbp
  have HL := Lib.hid hl
  have HN := Lib.hid hn
  have HZ := Lib.hid hz
  have HS := Lib.hid hs
  have HL0 := Lib.hid hl0
  have hmm := @run_makeMap Tryd.prog
  have h0 := World.ownsMap_made (H := Unit) w1 Tryd.prog 9 unitElem
  have HM0 := Lib.hid h0
  have HB0 := Lib.hid (hbp.more hba w1.heap.size (Nat.le_refl _) (by simp))
  have HLP : Hid (∀ k, P k → k < w1.heap.size) := Lib.hid (by obtain ⟨_, _, _, _, _, _, h⟩ := hbp; exact h)
  have HKA : Hid (Kp P w1 (w1.alloc (.map #[] 0))) := Lib.hid (Kp.alloc P w1 _)
  clear hx hg he hPx hPg hPa hsub hk hic hPi hl0 hs hbp hl hn hz h0 hba
  show Calls Tryd.prog 43 #[.pointer (some ⟨q, 0, none⟩), .pointer (some ⟨x, 0, none⟩)] w1 _
  go_enter Tryd.func43, Tryd.ntmps43
  go_wp2_with fail
  obtain ⟨mb, hmb⟩ : ∃ k, w1.heap.size = k := ⟨_, rfl⟩
  rw [hmb] at HM0 HB0 HLP
  simp only [hmb]
  have HMB := Lib.hid hmb
  clear hmb h1 h2
  go_loopw [14] (fun i wr => ∃ j : Nat, j ≤ n ∧ i = .int .i64 j ∧ Hid (BP (fun k => P k ∨ k = mb) wr q (.pointer (some ⟨icb, 0, none⟩)) off pl (l ++ filOut (zs.take j))) ∧ Hid (Kp P w1 wr) ∧ ∃ D, Hid (wr.ownsMap Tryd.prog 9 unitElem mb j D) ∧ Hid (Seen D zs j)) (fun i _ => n - (intOf i).toNat)
  case atStart => exact ⟨0, Nat.zero_le _, rfl, Lib.hid (by simpa [filOut] using HB0.out), HKA, _, HM0, Lib.hid (seen_nil zs)⟩
  case round =>
    obtain ⟨j, hj, rfl, HBJ, HKJ, D, HMJ, HSJ⟩ := hrel
    by_cases hlt : j < n
    · obtain ⟨⟨x2, y2⟩, hv⟩ : ∃ p, zs[j]? = some p := ⟨_, List.getElem?_eq_getElem (by rw [HL.out]; exact hlt)⟩
      obtain ⟨e1, c1, e2, c2, k0, k1, p1, p2, r1, r2⟩ := (HEL.out.kp HKJ.out HPA.out) j x2 y2 hv
      have hoid := HZ.out.oid _ (List.mem_of_getElem? hv)
      obtain ⟨lx, hlx⟩ : ∃ k, x2.length = k := ⟨_, rfl⟩
      obtain ⟨ly, hly⟩ : ∃ k, y2.length = k := ⟨_, rfl⟩
      rw [hlx] at k0 hoid
      rw [hly] at k1
      have t1 : decide ((lx : Int) < 1) = false := by simp; omega
      have t1' : ¬ lx = 0 := by omega
      have jw := finc hlt (by have := HN.out; omega)
      have b1 := below_alloc wr (.cells #[.slice (some ⟨e1, 0, none⟩) lx c1, .slice (some ⟨e2, 0, none⟩) ly c2] 106)
      have b2 := below_alloc (wr.alloc (.cells #[.slice (some ⟨e1, 0, none⟩) lx c1, .slice (some ⟨e2, 0, none⟩) ly c2] 106)) (.cells #[] 86)
      have q1 := run_conv_bs (P := Tryd.prog) _ 26 9 5 Tryd.underlying26 Tryd.underlying5 Tryd.underlying9 x2 (some ⟨e1, 0, none⟩) lx c1 hlx (r1.keep b1)
      have q2 := run_conv_bs (P := Tryd.prog) _ 26 9 5 Tryd.underlying26 Tryd.underlying5 Tryd.underlying9 x2 (some ⟨e1, 0, none⟩) lx c1 hlx (r1.keep (below_two b1 b2))
      have hkey : keyOf Tryd.prog 9 (.string (S x2)) = some (.string x2) := WideMaps.keyOf_string_mk Tryd.underlying9 (by rw [S_size, hlx]; simp only [maxLen]; omega)
      have hhas := HSJ.out.2 x2 (fun i p hi hp => HZ.out.dist i j p _ hi hp hv)
      have hlk := lookup_unit_run (string_keyed Tryd.underlying9) fMapInfo (unitZeroF _) (HMJ.out.alloc (.cells #[.slice (some ⟨e1, 0, none⟩) lx c1, .slice (some ⟨e2, 0, none⟩) ly c2] 106)) hkey hhas
      have HKEY := Lib.hid hkey
      have HV := Lib.hid hv
      have HLX := Lib.hid hlx
      have HLY := Lib.hid hly
      have HOID := Lib.hid hoid
      have R1 := Lib.hid (And.intro p1 (And.intro p2 (And.intro r1 r2)))
      clear hkey hhas hv hlx hly p1 p2 r1 r2 hoid b1 b2
      go_wp2_with (at_mapUpdate; refine Held.on ?_)
      have HCL := Lib.hid (And.intro q1 (And.intro q2 hlk))
      clear q1 q2 hlk k0 k1
      refine held (wpList_mapUpdate_own _ rfl (.tmp 37) (.tmp 40) (.tmp 41) 115 rfl 9 86 (string_keyed Tryd.underlying9) fMapInfo unitElem mb j D rfl ((HMJ.out.alloc _).alloc _) (by have := HN.out; simp only [maxLen]; omega) _ _ (.string x2) rfl rfl HKEY.out (.agg []) [] unitElem_mk (fun w3 hm3 hg3 => ?_))
      obtain ⟨fb, hfb⟩ : ∃ k, wr.heap.size = k := ⟨_, rfl⟩
      have hmlt := HMJ.out.lt
      have b1 := below_alloc wr (.cells #[.slice (some ⟨e1, 0, none⟩) lx c1, .slice (some ⟨e2, 0, none⟩) ly c2] 106)
      have b2 := below_alloc (wr.alloc (.cells #[.slice (some ⟨e1, 0, none⟩) lx c1, .slice (some ⟨e2, 0, none⟩) ly c2] 106)) (.cells #[] 86)
      have hF := (((Blk.new wr 106 #[.slice (some ⟨e1, 0, none⟩) lx c1, .slice (some ⟨e2, 0, none⟩) ly c2]).keep b2).grown hg3 (by simp; omega))
      have hB3 := ((HBJ.out.more b1 fb (by omega) (by rw [World.size_alloc]; omega)).keep b2).grown hg3 (.inl (.inr rfl))
      have nP : ∀ k, P k → k ≠ mb := fun k hk => by have := HLP.out k hk; omega
      have hk3 : Kp P w1 w3 := (HKJ.out.trans (Kp.below (below_two b1 b2))).trans (Kp.grown hg3 (fun k hk h => by injection hk with hk; exact nP k h hk.symm))
      have hic3 := hk3.cell HIC.out HPI.out
      obtain ⟨p1, p2, r1, r2⟩ := R1.out
      have r1' := (r1.keep (below_two b1 b2)).tch (Tch.grown hg3) (by simp; exact nP _ p1)
      have r2' := (r2.keep (below_two b1 b2)).tch (Tch.grown hg3) (by simp; exact nP _ p2)
      rw [hfb] at hF
      simp only [hfb]
      have hrm := fil_room HV.out
      have HA1 := Lib.hid (alp8In_any _ w3 46 #[.pointer (some ⟨fb, 0, none⟩)] q icb off pl (l ++ filOut (zs.take j)) x2 (fEnters Tryd.func46 (by kernel_rfl) rfl) (by have := HLX.out; have := HOID.out; omega) (by have := HS.out; rw [List.length_append]; omega) hB3 hic3 (.inl (.inl HPI.out))
        (fillOid _ w3 fb e1 lx c1 icb x2 HLX.out ((hF.cell 0).trans rfl) r1' (.inr rfl) (.inl (.inl p1))))
      have HF3 := Lib.hid hF
      have HK3 := Lib.hid hk3
      have HM3 := Lib.hid hm3
      have HR2 := Lib.hid r2'
      have HP2 := Lib.hid p2
      have HRM := Lib.hid hrm
      clear hF hB3 hk3 hic3 p1 p2 r1 r2 r1' r2' hrm hm3 hg3 b1 b2 nP R1 HCL
      go_wp2_with fail
      refine HA1.out.mono ?_
      rintro e w4 ⟨rfl, hB4, hk4⟩
      have HA2 := Lib.hid (alp16In_any _ w4 48 #[.pointer (some ⟨fb, 0, none⟩)] q icb off pl _ y2 (fEnters Tryd.func48 (by kernel_rfl) rfl) (by have := HRM.out; have := HS.out; have := HZ.out.tot; have := filTot_next HV.out; have := filTot_take zs (j + 1); omega) (by have := HS.out; have := HRM.out; simp only [List.length_append, be_length] at *; omega) hB4 ((hk4.cell ((HK3.out.cell HIC.out HPI.out)) (.inl (.inl HPI.out)))) (.inl (.inl HPI.out))
        (fillVal _ w4 fb e2 ly c2 icb y2 HLY.out (((HF3.out.kp hk4 (.inr rfl)).cell 1).trans rfl) (HR2.out.kp hk4 (.inl (.inl HP2.out))) (.inr rfl) (.inl (.inl HP2.out))))
      have HK4 := Lib.hid hk4
      clear hB4 hk4 HA1
      go_wp2_with fail
      refine HA2.out.mono ?_
      rintro e w5 ⟨rfl, hB5, hk5⟩
      have hnx := filOut_next HV.out
      have hB6 := hB5.less (P := fun k => P k ∨ k = mb) (fun k h => .inl h)
      rw [List.append_assoc, List.append_assoc, ← hnx] at hB6
      have HB6 := Lib.hid hB6
      have HK6 : Hid (Kp P w1 w5) := Lib.hid (HK3.out.trans ((HK4.out.trans hk5).less (fun k _ h => .inl (.inl h))))
      have HM6 := Lib.hid (ownsMap_kp HM3.out (HK4.out.trans hk5) (.inl (.inr rfl)))
      clear hB5 hk5 hnx hB6 HA2
      go_wp2_with fail
      go_roundw
      case rel => exact ⟨j + 1, hlt, by rw [jw]; go_num, HB6, HK6, _, HM6, Lib.hid (seen_snoc HSJ.out HV.out)⟩
      case measure => rw [jw]; exact fmeas hlt
    · obtain rfl : j = n := by omega
      have e : zs.take j = zs := List.take_of_length_le (by rw [HL.out]; exact Nat.le_refl _)
      have HE := Lib.hid e
      clear e
      go_wp2_with fail
      first | go_end0 | refine bodyPost_ret (results_none rfl _ _ _) rfl ?_
      have := HBJ.out
      rw [HE.out] at this
      exact ⟨rfl, this.less (fun k h => .inl h), HKJ.out⟩
end Go.Proofs.YtfelfjdgmjapnaaDoor
