/- Walks: a server's key exchange with a hint and a curve, read. -/
import Derived.Test.YtfelfjdgmjapnaaDoorCurves
import Derived.Test.YtfelfjdgmjapnaaDoorOps6
import Derived.Test.YtfelfjdgmjapnaaDoorU16
import Derived.Test.YtfelfjdgmjapnaaDoorStrK
import Derived.Test.YtfelfjdgmjapnaaDoorBig
import Derived.Deep.RegionHeld3
import Derived.StillTailTactics
import Derived.Outline
import Derived.Deep.RegionWith
namespace Go.Proofs.YtfelfjdgmjapnaaDoor
open Go.RowKit Go.Cv Go.Maps
set_option maxRecDepth 100000
set_option linter.unusedVariables false
theorem lookup_ok_run {P : Program} {w : World} {t k e : TypeId} (K : Keyed P k) (ht : P.underlying t = some (.map k e)) (he : P.underlying e = some .bool) (hz : (zeroValue e).run P w = .ok (.bool false) w) {b n : Nat} {D : DataW Unit}
    (hown : w.ownsMap P k (plainElem P e) b n D) {key : Value} {kl : Lit} (hkey : keyOf P k key = some kl) {y z : Bool} (hat : D.atKey kl (.lit (.bool false)) = .lit (.bool y)) (hhas : Maps.has D kl = z) :
    (Instr.lookup t (.map (some b)) key true).run P w = .ok (.tuple #[.bool y, .bool z]) w := by
  obtain ⟨v, ps, hrun, hv⟩ := hown.look_ok K ht hz (plainElem_bool he false) hkey
  obtain ⟨c, rfl, hc⟩ := plainElem_bool_inv he hv
  simp only [Prod.mk.injEq] at hc
  have h := hat.symm.trans hc.1
  simp only [DataW.lit.injEq, Lit.bool.injEq] at h
  subst h
  rw [hhas] at hrun
  exact hrun
theorem unitZeroB (w : World) : (zeroValue 86).run Tryd.prog w = .ok (.agg #[]) w := by kernel_rfl
theorem cv_wf (cv : Nat) (h : cv = 23 ∨ cv = 24 ∨ cv = 29) : (Lit.int .u16 (cv : Int)).wf = true := by rcases h with rfl | rfl | rfl <;> decide
theorem has62 (w : World) : Calls Tryd.prog 33 #[.int .i64 6, .int .i64 2] w fun e w' => e = .returned (.bool true) ∧ w = w' := by
  go_enter Tryd.func33, Tryd.ntmps33
  go_wp2_with fail
  go_ret
  exact ⟨rfl, rfl⟩
theorem has64 (w : World) : Calls Tryd.prog 33 #[.int .i64 6, .int .i64 4] w fun e w' => e = .returned (.bool true) ∧ w = w' := by
  go_enter Tryd.func33, Tryd.ntmps33
  go_wp2_with fail
  go_ret
  exact ⟨rfl, rfl⟩
def ctD : DataW Unit := DataW.put (DataW.map [] : DataW Unit) (.int .u8 3) (.agg [])
theorem ctKeyed : Keyed Tryd.prog 52 := int_keyed Tryd.underlying52
theorem ct_has : Maps.has ctD (.int .u8 3) = true ∧ (Lit.int .u8 3).wf = true := ⟨by kernel_rfl, by decide⟩
theorem ctypes_any (w : World) :
    Calls Tryd.prog 34 #[] w fun e w' => ∃ b, e = .returned (.map (some b)) ∧ w'.ownsMap Tryd.prog 52 unitElem b 1 ctD ∧ Below w.heap.size w w' := by
  have hmm := @run_makeMap Tryd.prog
  have h0 := World.ownsMap_made (H := Unit) w Tryd.prog 52 unitElem
  go_enter Tryd.func34, Tryd.ntmps34
  go_wp2_with (with_reducible refine Held.insert ?_)
  refine held_insert rfl (.tmp 1) _ _ 91 rfl 52 86 ctKeyed Tryd.underlying91 _ _ _ _ rfl h0 (by simp [maxLen]) _ _ (.int .u8 3) rfl rfl (keyOf_int_mk Tryd.underlying52 (by decide)) _ _ unitElem_mk ?_
  intro w1 h1 g1
  have hb : Below w.heap.size w w1 := by
    have g : (w.alloc (.map #[] 0)).grownBy w1 (some w.heap.size) := g1
    exact below_append_new g
  go_wp2_with fail
  go_ret
  exact ⟨_, rfl, h1, hb⟩
/-- What is read, and where. -/
structure SbIn (w : World) (b o np : Nat) (x y u v : UInt8) (hint pk : List UInt8) : Prop where
  r0 : w.cell? ⟨b, 0, none⟩ = some (.int .u8 x.toNat)
  r1 : w.cell? ⟨b, 1, none⟩ = some (.int .u8 y.toNat)
  rh : Rd w (some ⟨b, 2, none⟩) (vs hint)
  r3 : w.cell? ⟨b, o, none⟩ = some (.int .u8 3)
  ru : w.cell? ⟨b, o + 1, none⟩ = some (.int .u8 u.toNat)
  rv : w.cell? ⟨b, o + 1 + 1, none⟩ = some (.int .u8 v.toNat)
  rn : w.cell? ⟨b, o + 3, none⟩ = some (.int .u8 (np : Int))
  rp : Rd w (some ⟨b, o + 4, none⟩) (vs pk)
theorem SbIn.tch {w w' : World} {b o np : Nat} {x y u v : UInt8} {hint pk : List UInt8} (h : SbIn w b o np x y u v hint pk) {L : List Nat} (ht : Tch L w w') (hn : b ∉ L) : SbIn w' b o np x y u v hint pk :=
  ⟨ht.cell h.r0 hn, ht.cell h.r1 hn, h.rh.tch ht hn, ht.cell h.r3 hn, ht.cell h.ru hn, ht.cell h.rv hn, ht.cell h.rn hn, h.rp.tch ht hn⟩
def sbRow (A1 : Option Addr) (n1 c1 : Nat) (t : Int) (cv : Nat) (A2 : Option Addr) (n2 c2 : Nat) : Array Value := #[.slice A1 n1 c1, .int .u8 t, .int .u16 (cv : Int), .slice A2 n2 c2, .int .u16 0, .int .u16 0, .slice none 0 0, .int .i64 6]
theorem sb_nums (m o np q N : Nat) (h1 : 2 + m = o) (h2 : 4 + np = q) (h3 : o + q = N) (hm : m < 60000) (hp : np < 256) :
    IntKind.i64.wrap (m : Int) = m ∧ (2 : Int) + m = o ∧ IntKind.i64.wrap (o : Int) = o ∧ (4 : Int) + np = q ∧ IntKind.i64.wrap (q : Int) = q ∧ IntKind.i64.wrap (np : Int) = np ∧ N - o = q ∧ o - 2 = m ∧ q - 4 = np :=
  ⟨by rw [IntKind.wrap_i64]; omega, by omega, by rw [IntKind.wrap_i64]; omega, by omega, by rw [IntKind.wrap_i64]; omega, by rw [IntKind.wrap_i64]; omega, by omega, by omega, by omega⟩
set_option maxHeartbeats 4000000 in
theorem sbbUnm (g b c N m o np q cv : Nat) (x y u v : UInt8) (hint pk : List UInt8) (hh : hint.length = m) (hpk : pk.length = np) (hm : m < 60000) (hm0 : 0 < m) (hp : np < 256) (hp0 : 0 < np) (ho : 2 + m = o) (hq : 4 + np = q) (hN : o + q = N) (hNc : N ≤ c) (hxy : x.toNat * 256 + y.toNat = m) (huv : u.toNat * 256 + v.toNat = cv) (hcv : cv = 23 ∨ cv = 24 ∨ cv = 29)
    (w : World) (hk : Blk w g 57 (sbRow none 0 0 0 0 none 0 0)) (hin : SbIn w b o np x y u v hint pk) (hgb : g ≠ b) :
    Calls Tryd.prog 15 #[.pointer (some ⟨g, 0, none⟩), .slice (some ⟨b, 0, none⟩) N c] w fun e' w' =>
      ∃ A1 c1 A2 c2, e' = .returned .nilIface ∧ Blk w' g 57 (sbRow A1 m c1 3 cv A2 np c2) ∧ Rd w' A1 (vs hint) ∧ Rd w' A2 (vs pk) ∧ w.grownBy w' (some g) := by
  have hgs := hk.lt
  have hbs := block_lt hin.r0
  obtain ⟨p1, p2, p3, p4, p5, p6, p7, p8, p9⟩ := sb_nums m o np q N ho hq hN hm hp
  obtain ⟨N2, hN2⟩ : ∃ n : Nat, N = n + 2 := ⟨N - 2, by omega⟩
  have n1 : (N : Int) - 2 = N2 := by omega
  have n2 : IntKind.i64.wrap (N2 : Int) = N2 := by rw [IntKind.wrap_i64]; omega
  have n3 : decide ((m : Int) ≤ N2) = true := by simp; omega
  have n3' : m ≤ N2 := by omega
  have i2 : decide ((N : Int) < 2) = false := by simp; omega
  have i2' : ¬ N < 2 := by omega
  have k7 := (hk.cell 7).trans (rfl : _ = some (Value.int .i64 6))
  have HUx : Hid (Calls Tryd.prog 32 #[.agg #[], .slice (some ⟨b, 0, none⟩) N c] w fun e' w' => e' = .returned (.int .u16 (m : Int)) ∧ Below w.heap.size w w') := Lib.hid (by
    rw [← hxy]
    exact u16_any b 0 N c x.toNat y.toNat (by have := x.toNat_lt; omega) (by have := y.toNat_lt; omega) (by omega) w hin.r0 hin.r1)
  have HK := Lib.hid hk
  have HIN := Lib.hid hin
  have HH := Lib.hid hh
  have HPK := Lib.hid hpk
  have HNC := Lib.hid hNc
  have HNUM := Lib.hid (And.intro (And.intro ho hq) (And.intro hN (And.intro (And.intro hm hm0) (And.intro hp hp0))))
  have HUV := Lib.hid huv
  have HCV := Lib.hid hcv
  clear hk hin hh hpk hNc hxy huv hcv hm hm0 hp hp0 hN ho hq hN2
  go_enter Tryd.func15, Tryd.ntmps15
  go_wp2_with fail
  refine HUx.out.mono ?_
  rintro e w1 ⟨rfl, hb1⟩
  have hk1 := HK.out.keep hb1
  have k7 := (hk1.cell 7).trans (rfl : _ = some (Value.int .i64 6))
  have HK1 := Lib.hid hk1
  have HX1 := Lib.hid (HIN.out.tch (Tch.below hb1 []) (by simp))
  have HT1 := Lib.hid (Tch.below hb1 [g])
  clear hk1 hb1 HUx HK HIN
  go_wp2_with fail
  refine (has62 w1).mono ?_
  rintro e w2 ⟨rfl, rfl⟩
  have i3 : (2 : Int) ≤ o := by have := HNUM.out.1.1; omega
  have i4 : (o : Int) ≤ c := by have := HNUM.out.2.1; have := HNC.out; omega
  have i5 : ¬ c = 2 := by have := HNUM.out.2.1; have := HNUM.out.1.1; have := HNC.out; omega
  go_wp2_with (at_builtin; refine Held.on ?_)
  have hR1 : Rd (w1.alloc (.cells #[] 5)) (some ⟨b, 2, none⟩) (vs hint) := HX1.out.rh.keep (below_alloc _ _)
  refine held_append rfl (.tmp 45) (.tmp 49) 26 26 rfl w1.heap.size 5 _ 1 1 Tryd.underlying26 (.inl Tryd.underlying26) u8info rfl (by omega) (xs := []) (ys := vs hint) rfl rfl (own_made0 w1 _) ⟨by rw [vs_length, HH.out]; omega, vs_one _, .inl ⟨_, _, rfl, hR1⟩⟩ (by have := HNUM.out.2.2.1.1; omega) (by have := HNUM.out.2.2.1.1; simp only [maxLen]; omega) (by simp) ?_
  intro A1 c1 w2 hO2 hg2 hor2
  obtain ⟨a1, rfl, ha1⟩ : ∃ a, A1 = some ⟨a, 0, none⟩ ∧ w1.heap.size ≤ a := by
    rcases hor2 with ⟨rfl, _⟩ | rfl
    · exact ⟨_, rfl, Nat.le_refl _⟩
    · exact ⟨_, rfl, by simp⟩
  have ht2 : Tch [] w1 w2 := (Tch.alloc w1 (.cells #[] 5)).then (Tch.grown hg2) (by simp)
  have hk2 := HK1.out.tch ht2 (by simp)
  have hx2 := HX1.out.tch ht2 (by simp)
  have hr2 : Rd w2 (some ⟨a1, 0, none⟩) (vs hint) := by simpa using hO2.rd
  have hm0 : 0 + (o - 2) = m := by omega
  have f0 := hk2.frozen 0
  have k0 := (hk2.cell 0).trans (rfl : _ = some (Value.slice none 0 0))
  have hg1 : g ≠ a1 := by have := HK1.out.lt; omega
  have T3 := (HT1.out.then ht2 (by simp)).trans (Tch.set w2 g 0 (.slice (some ⟨a1, 0, none⟩) m c1))
  have hk3 : Blk (w2.setCell ⟨g, 0, none⟩ (.slice (some ⟨a1, 0, none⟩) m c1)) g 57 (sbRow (some ⟨a1, 0, none⟩) m c1 0 0 none 0 0) := by simpa [sbRow] using hk2.set_ 0 (.slice (some ⟨a1, 0, none⟩) m c1)
  have hx3 := hx2.tch (Tch.set w2 g 0 (.slice (some ⟨a1, 0, none⟩) m c1)) (by simp; omega)
  have hr3 := hr2.tch (Tch.set w2 g 0 (.slice (some ⟨a1, 0, none⟩) m c1)) (by simp; omega)
  have k7 := (hk2.cell 7).trans (rfl : _ = some (Value.int .i64 6))
  have e1 : (o : Int) ≤ N := by have := HNUM.out.2.1; omega
  have e2 : ¬ c = o := by have := HNUM.out.2.1; have := HNUM.out.1.2; have := HNC.out; omega
  have HT3 := Lib.hid T3
  have HK3 := Lib.hid hk3
  have HX3 := Lib.hid hx3
  have HR3 := Lib.hid hr3
  clear hO2 hg2 hor2 ht2 hk2 hx2 hr2 hR1 T3 hk3 hx3 hr3 HK1 HX1 HT1 i3 i4 i5
  go_wp2_with fail
  clear f0 k0 k7
  generalize hW : w2.setCell ⟨g, 0, none⟩ (.slice (some ⟨a1, 0, none⟩) m c1) = w3 at *
  clear hW
  refine (has64 w3).mono ?_
  rintro e w4 ⟨rfl, rfl⟩
  obtain ⟨cc, hcc⟩ : ∃ n, c - o = n := ⟨_, rfl⟩
  have hcq : q ≤ cc := by have := HNUM.out.2.1; have := HNC.out; omega
  simp only [hcc]
  have HCC := Lib.hid hcq
  have j0 : ((q : Int) == 0) = false := by have := HNUM.out.1.2; simp; omega
  have j0' : ¬ q = 0 := by have := HNUM.out.1.2; omega
  clear hcq hcc e1 e2
  go_wp2_with fail
  have i0 : (0 : Int) < q := by have := HNUM.out.1.2; omega
  have i0' : 0 < q := by omega
  have HBA : Hid (∀ w', Below w3.heap.size w3 w' → w'.cell? ⟨b, o, none⟩ = some (.int .u8 3)) := Lib.hid (fun w' h => (HX3.out.tch (Tch.below h []) (by simp)).r3)
  go_region_held3 (fun w' => w'.cell? ⟨b, o, none⟩ = some (.int .u8 3)) ((refine HBA.out _ ?_; first | ((repeat (first | assumption | exact Below.refl _ _ | refine Below.drew ?_ | refine Below.setCell ?_ (by first | omega | (simp; done) | (simp; omega)) _ | refine Below.alloc ?_ (by first | omega | (simp; done) | (simp; omega)) _)); done) | exact below_two (below_drew _) (by assumption) | (refine below_two ?_ (by assumption); (repeat (first | assumption | exact Below.refl _ _ | refine Below.drew ?_ | refine Below.setCell ?_ (by first | omega | (simp; done) | (simp; omega)) _ | refine Below.alloc ?_ (by first | omega | (simp; done) | (simp; omega)) _)); done) | (refine below_two (below_two ?_ (by assumption)) (below_alloc _ _); (repeat (first | assumption | exact Below.refl _ _ | refine Below.drew ?_ | refine Below.setCell ?_ (by first | omega | (simp; done) | (simp; omega)) _ | refine Below.alloc ?_ (by first | omega | (simp; done) | (simp; omega)) _)); done)))
    (first | (go_at_call 34; refine (ctypes_any _).mono ?_; rintro e w5 ⟨mbA, rfl, hmap, hbA⟩; have hlk := lookup_unit_run ctKeyed Tryd.underlying91 (unitZeroB _) hmap (keyOf_int_mk Tryd.underlying52 ct_has.2) ct_has.1; have hlk2 := fun (ob : Obj) => lookup_unit_run ctKeyed Tryd.underlying91 (unitZeroB _) (hmap.alloc ob) (keyOf_int_mk Tryd.underlying52 ct_has.2) ct_has.1))
  all_goals
    first
      | (have hbX : Below w3.heap.size w3 (w5.alloc (.cells #[] 86)) := by (refine below_two (below_two ?_ hbA) (below_alloc _ _); (repeat (first | assumption | exact Below.refl _ _ | refine Below.drew ?_ | refine Below.setCell ?_ (by first | omega | (simp; done) | (simp; omega)) _ | refine Below.alloc ?_ (by first | omega | (simp; done) | (simp; omega)) _)))
         change Exit.then _ _ _ _ (World.alloc w5 _)
         generalize w5.alloc (.cells #[] 86) = wX at *)
      | (have hbX : Below w3.heap.size w3 w5 := by (refine below_two ?_ hbA; (repeat (first | assumption | exact Below.refl _ _ | refine Below.drew ?_ | refine Below.setCell ?_ (by first | omega | (simp; done) | (simp; omega)) _ | refine Below.alloc ?_ (by first | omega | (simp; done) | (simp; omega)) _)))
         rename World => wX)
    have hkX := HK3.out.keep hbX
    have hxX := HX3.out.tch (Tch.below hbX []) (by simp)
    have HRX := Lib.hid (HR3.out.keep hbX)
    have HTX := Lib.hid (HT3.out.then (Tch.below hbX []) (by simp))
    have k1 := (hkX.cell 1).trans (rfl : _ = some (Value.int .u8 0))
    have f1 := hkX.frozen 1
    have bo := hxX.r3
    have hk4 : Blk (wX.setCell ⟨g, 1, none⟩ (.int .u8 3)) g 57 (sbRow (some ⟨a1, 0, none⟩) m c1 3 0 none 0 0) := by simpa [sbRow] using hkX.set_ 1 (.int .u8 3)
    have HK4 := Lib.hid hk4
    have HX4 := Lib.hid (hxX.tch (Tch.set wX g 1 (.int .u8 3)) (by simp; omega))
    have HR4 := Lib.hid (HRX.out.tch (Tch.set wX g 1 (.int .u8 3)) (by simp; omega))
    have HT4 := Lib.hid (HTX.out.trans (Tch.set wX g 1 (.int .u8 3)))
    have j1 : (1 : Int) ≤ q := by have := HNUM.out.1.2; omega
    have j1' : 1 ≤ q := by omega
    have j2 : ¬ cc = 1 := by have := HCC.out; have := HNUM.out.1.2; omega
    have j3 : ¬ q - 1 < 2 := by have := HNUM.out.1.2; omega
    have j3' : decide (((q - 1 : Nat) : Int) < 2) = false := by simp; omega
    have j4 : (3 : Int) ≤ cc := by have := HCC.out; have := HNUM.out.1.2; omega
    clear hmap hlk hlk2 hbA hbX hkX hxX hk4 HRX HTX
    go_wp2_with fail
    clear k1 f1 bo
    generalize hW : wX.setCell ⟨g, 1, none⟩ (.int .u8 3) = w6 at *
    clear hW
    have HX6 := Lib.hid (HX4.out.tch (Tch.drew w6) (by simp))
    have HK6 : Hid (Blk w6.drew g 57 _) := HK4
    have HR6 : Hid (Rd w6.drew (some ⟨a1, 0, none⟩) (vs hint)) := HR4
    have HT6 := Lib.hid (HT4.out.then (Tch.drew w6) (by simp))
    have G2 : Hid (∀ w, w.cell? ⟨b, o + 1, none⟩ = some (.int .u8 u.toNat) → w.cell? ⟨b, o + 1 + 1, none⟩ = some (.int .u8 v.toNat) → Calls Tryd.prog 32 #[.agg #[], .slice (some ⟨b, o + 1, none⟩) 2 (cc - 1)] w fun e' w' => e' = .returned (.int .u16 (cv : Int)) ∧ Below w.heap.size w w') := Lib.hid (fun w h0 h1 => by
      rw [← HUV.out]
      exact u16_any b (o + 1) 2 (cc - 1) u.toNat v.toNat (by have := u.toNat_lt; omega) (by have := v.toNat_lt; omega) (by omega) w h0 h1)
    clear HX4 HK4 HR4 HT4
    first
      | (go_region_with (first
          | (go_at_call 32; refine (G2.out _ HX6.out.ru HX6.out.rv).mono ?_; rintro e' w7 ⟨rfl, hb7⟩; have hk7 := HK6.out.keep hb7; have c2 := hk7.cell 2; have f2 := hk7.frozen 2; simp [sbRow] at c2; replace hk7 := Lib.hid hk7)))
      | fail "no"
    all_goals
      have hk8 := hk7.out.set_ 2 (.int .u16 (cv : Int))
      have hk8' : Blk (w7.setCell ⟨g, 2, none⟩ (.int .u16 (cv : Int))) g 57 (sbRow (some ⟨a1, 0, none⟩) m c1 3 cv none 0 0) := by simpa [sbRow] using hk8
      have HT8 := Lib.hid ((HT6.out.then (Tch.below hb7 []) (by simp)).trans (Tch.set w7 g 2 (.int .u16 (cv : Int))))
      have HX8 := Lib.hid ((HX6.out.tch (Tch.below hb7 []) (by simp)).tch (Tch.set w7 g 2 (.int .u16 (cv : Int))) (by simp; omega))
      have HR8 := Lib.hid ((HR6.out.keep hb7).tch (Tch.set w7 g 2 (.int .u16 (cv : Int))) (by simp; omega))
      have HK8 := Lib.hid hk8'
      clear HX6 HK6 HR6 HT6 G2 hk7 c2 f2 hb7 hk8 hk8' j1 j1' j2 j3 j3'
      generalize hW : w7.setCell ⟨g, 2, none⟩ (.int .u16 (cv : Int)) = w8 at *
      clear hW
      go_wp2_with fail
      have HBC : Hid (∀ w', Below w8.heap.size w8 w' → w'.cell? ⟨g, 2, none⟩ = some (.int .u16 (cv : Int))) := Lib.hid (fun w' h => ((HK8.out.keep h).cell 2).trans rfl)
      go_region_held3 (fun w' => w'.cell? ⟨g, 2, none⟩ = some (.int .u16 (cv : Int))) ((refine HBC.out _ ?_; first | ((repeat (first | assumption | exact Below.refl _ _ | refine Below.drew ?_ | refine Below.setCell ?_ (by first | omega | (simp; done) | (simp; omega)) _ | refine Below.alloc ?_ (by first | omega | (simp; done) | (simp; omega)) _)); done) | exact below_two (below_drew _) (by assumption) | (refine below_two ?_ (by assumption); (repeat (first | assumption | exact Below.refl _ _ | refine Below.drew ?_ | refine Below.setCell ?_ (by first | omega | (simp; done) | (simp; omega)) _ | refine Below.alloc ?_ (by first | omega | (simp; done) | (simp; omega)) _)); done)))
        (first | (go_at_call 35; refine (curves_any _).mono ?_; rintro e w9 ⟨mbA, rfl, hmap, hbA⟩; have hlk := lookup_ok_run curveKeyed Tryd.underlying94 Tryd.underlying4 (boolZero _) hmap (keyOf_int_mk Tryd.underlying53 (cv_wf cv HCV.out)) (curves_at cv HCV.out).1 (curves_at cv HCV.out).2))
      all_goals
        have hb9 : Below w8.heap.size w8 w9 := by first | exact hbA | exact below_two (below_drew w8) hbA
        have hk9 := HK8.out.keep hb9
        have HK9 := Lib.hid hk9
        have HX9 := Lib.hid (HX8.out.tch (Tch.below hb9 []) (by simp))
        have HR9 := Lib.hid (HR8.out.keep hb9)
        have HT9 := Lib.hid (HT8.out.then (Tch.below hb9 []) (by simp))
        have bn := HX9.out.rn
        have j5 : decide ((q : Int) < 4) = false := by have := HNUM.out.1.2; simp; omega
        have j5' : ¬ q < 4 := by have := HNUM.out.1.2; omega
        have j6 : (3 : Int) < q := by have := HNUM.out.1.2; have := HNUM.out.2.2.2.2; omega
        have j7 : (4 : Int) ≤ q := by omega
        have j7' : 4 ≤ q := by omega
        have j8 : (q : Int) ≤ cc := by have := HCC.out; omega
        have j9 : ¬ cc = 4 := by have := HCC.out; have := HNUM.out.1.2; have := HNUM.out.2.2.2.2; omega
        clear hmap hlk hbA hb9 hk9 HK8 HX8 HR8 HT8 j4
        go_wp2_with (at_builtin; refine Held.on ?_)
        have hRp : Rd (w9.alloc (.cells #[] 5)) (some ⟨b, o + 4, none⟩) (vs pk) := HX9.out.rp.keep (below_alloc _ _)
        refine held_append rfl (.tmp 133) (.tmp 136) 26 26 rfl w9.heap.size 5 _ 1 1 Tryd.underlying26 (.inl Tryd.underlying26) u8info rfl (by omega) (xs := []) (ys := vs pk) rfl rfl (own_made0 w9 _) ⟨by rw [vs_length, HPK.out]; omega, vs_one _, .inl ⟨_, _, rfl, hRp⟩⟩ (by have := HNUM.out.2.2.2.1; omega) (by have := HNUM.out.2.2.2.1; simp only [maxLen]; omega) (by simp) ?_
        intro A2 c2 wA hOA hgA horA
        obtain ⟨a2, rfl, ha2⟩ : ∃ a, A2 = some ⟨a, 0, none⟩ ∧ w9.heap.size ≤ a := by
          rcases horA with ⟨rfl, _⟩ | rfl
          · exact ⟨_, rfl, Nat.le_refl _⟩
          · exact ⟨_, rfl, by simp⟩
        have htA : Tch [] w9 wA := (Tch.alloc w9 (.cells #[] 5)).then (Tch.grown hgA) (by simp)
        have hkA := HK9.out.tch htA (by simp)
        have hrA : Rd wA (some ⟨a2, 0, none⟩) (vs pk) := by simpa using hOA.rd
        have hm0 : 0 + (q - 4) = np := by omega
        have f3 := hkA.frozen 3
        have k3 := (hkA.cell 3).trans (rfl : _ = some (Value.slice none 0 0))
        have hg2 : g ≠ a2 := by have := HK9.out.lt; omega
        have TB := (HT9.out.then htA (by simp)).trans (Tch.set wA g 3 (.slice (some ⟨a2, 0, none⟩) np c2))
        have hkB : Blk (wA.setCell ⟨g, 3, none⟩ (.slice (some ⟨a2, 0, none⟩) np c2)) g 57 (sbRow (some ⟨a1, 0, none⟩) m c1 3 cv (some ⟨a2, 0, none⟩) np c2) := by simpa [sbRow] using hkA.set_ 3 (.slice (some ⟨a2, 0, none⟩) np c2)
        have hrB1 := (HR9.out.tch htA (by simp)).tch (Tch.set wA g 3 (.slice (some ⟨a2, 0, none⟩) np c2)) (by simp; omega)
        have hrB2 := hrA.tch (Tch.set wA g 3 (.slice (some ⟨a2, 0, none⟩) np c2)) (by simp; omega)
        have HTB := Lib.hid TB
        have HKB := Lib.hid hkB
        have HRB1 := Lib.hid hrB1
        have HRB2 := Lib.hid hrB2
        clear hOA hgA horA htA hkA hrA hRp TB hkB hrB1 hrB2 HK9 HX9 HT9 HR9 bn
        go_wp2_with fail
        go_ret
        exact ⟨_, _, _, _, rfl, HKB.out, HRB1.out, HRB2.out, HTB.out.toGrown⟩
end Go.Proofs.YtfelfjdgmjapnaaDoor
