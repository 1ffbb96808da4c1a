/- Walks: a record's header without a connection ID, read over a header that is filled already. -/
import Derived.Test.YtpedkkmoplbdhaaDoorHdw
import Derived.Test.YtpedkkmoplbdhaaDoorU16
import Derived.Deep.RegionWith
import Derived.Deep.RegionHeldLaw
import Derived.Outline
namespace Go.Proofs.YtpedkkmoplbdhaaDoor
open Go.RowKit Go.Cv
set_option maxRecDepth 100000
set_option linter.unusedVariables false
theorem verEq_no (w : World) : Calls Tryd.prog 95 #[.agg #[.int .u8 254, .int .u8 253], .agg #[.int .u8 254, .int .u8 255]] w fun e w' => e = .returned (.bool false) ∧ Below w.heap.size w w' := by
  go_enter Tryd.func95, Tryd.ntmps95
  go_wp2_with fail
  go_ret
  exact ⟨rfl, below_two (below_alloc _ _) (below_alloc _ _)⟩
theorem verEq_yes (w : World) : Calls Tryd.prog 95 #[.agg #[.int .u8 254, .int .u8 253], .agg #[.int .u8 254, .int .u8 253]] w fun e w' => e = .returned (.bool true) ∧ Below w.heap.size w w' := by
  go_enter Tryd.func95, Tryd.ntmps95
  go_wp2_with fail
  go_ret
  exact ⟨rfl, below_two (below_alloc _ _) (below_alloc _ _)⟩
theorem Rd.part {w : World} {b o : Nat} {l : List UInt8} (h : Rd w (some ⟨b, o, none⟩) (vs l)) (k m : Nat) : Rd w (some ⟨b, o + k, none⟩) (vs ((l.drop k).take m)) := by
  have h2 := h.drop k
  have h3 : Rd w (some ⟨b, o + k, none⟩) ((vs l).drop k |>.take m) := (show Rd w (some ⟨b, o + k, none⟩) _ from by simpa [add_lit] using h2).take m
  simpa [vs, List.map_take, List.map_drop] using h3
def hr0g (i0 i2 i3 i4 i5 : Value) (cl : Nat) (A : Option Addr) (n c : Nat) : Array Value := #[i0, .int .u16 (cl : Int), i2, i3, i4, i5, .slice A n c]
def hr1g (ct e s cl : Nat) (A : Option Addr) (n c : Nat) : Array Value := #[.int .u8 (ct : Int), .int .u16 (cl : Int), .int .u8 254, .int .u8 253, .int .u16 (e : Int), .int .u64 (s : Int), .slice A n c]
/-- What is read, and where. -/
structure HdIn (w : World) (b : Nat) (l : List UInt8) (ct e1 e2 s1 s2 s3 s4 s5 s6 : UInt8) (cid : List UInt8) : Prop where
  r0 : w.cell? ⟨b, 0, none⟩ = some (.int .u8 ct.toNat)
  r1 : w.cell? ⟨b, 1, none⟩ = some (.int .u8 254)
  r2 : w.cell? ⟨b, 2, none⟩ = some (.int .u8 253)
  r3 : w.cell? ⟨b, 3, none⟩ = some (.int .u8 e1.toNat)
  r4 : w.cell? ⟨b, 4, none⟩ = some (.int .u8 e2.toNat)
  r5 : Rd w (some ⟨b, 5, none⟩) (vs [s1, s2, s3, s4, s5, s6])
  r11 : Rd w (some ⟨b, 11, none⟩) (vs cid)
theorem HdIn.tch {w w' : World} {b : Nat} {l : List UInt8} {ct e1 e2 s1 s2 s3 s4 s5 s6 : UInt8} {cid : List UInt8} (h : HdIn w b l ct e1 e2 s1 s2 s3 s4 s5 s6 cid) {L : List Nat} (ht : Tch L w w') (hn : b ∉ L) : HdIn w' b l ct e1 e2 s1 s2 s3 s4 s5 s6 cid :=
  ⟨ht.cell h.r0 hn, ht.cell h.r1 hn, ht.cell h.r2 hn, ht.cell h.r3 hn, ht.cell h.r4 hn, h.r5.tch ht hn, h.r11.tch ht hn⟩
theorem hu_wrap (n N : Nat) (hn : (n : Int) ≤ 2147483647) (e q : Nat) (he : 11 + n = e) (hq : 13 + n = q) : IntKind.i64.wrap (q : Int) = q ∧ (13 : Int) + n = q ∧ (11 : Int) + n = e ∧ IntKind.i64.wrap (e : Int) = e ∧ (11 : Int) ≤ e := ⟨by rw [IntKind.wrap_i64]; omega, by omega, by omega, by rw [IntKind.wrap_i64]; omega, by omega⟩
set_option maxHeartbeats 2000000 in
theorem unmHdG_plain (y0 y2 y3 y4 y5 : Value) (cl : Nat) (g b n c N a0 c0 : Nat) (l : List UInt8) (ct e1 e2 s1 s2 s3 s4 s5 s6 : UInt8) (cid : List UInt8) (e s : Nat) (h25 : ((ct.toNat : Int) == 25) = false) (h25' : ¬ ct.toNat = 25) (he : e1.toNat * 256 + e2.toNat = e) (hs : s = (0 : UInt8).toNat * 72057594037927936 + ((0 : UInt8).toNat * 281474976710656 + (s1.toNat * 1099511627776 + (s2.toNat * 4294967296 + (s3.toNat * 16777216 + (s4.toNat * 65536 + (s5.toNat * 256 + s6.toNat)))))))
    (hcid : cid.length = n) (hn3 : (n : Int) ≤ 2147483647) (hN : 13 ≤ N) (hNc : N ≤ c) (w : World) (hk : Blk w g 53 (hr0g y0 y2 y3 y4 y5 cl (some ⟨a0, 0, none⟩) n c0)) (hin : HdIn w b l ct e1 e2 s1 s2 s3 s4 s5 s6 cid) (hgb : g ≠ b)
    (v0 : w.cell? ⟨9, 0, none⟩ = some (.int .u8 254) ∧ w.cell? ⟨9, 1, none⟩ = some (.int .u8 255)) (v2 : w.cell? ⟨10, 0, none⟩ = some (.int .u8 254) ∧ w.cell? ⟨10, 1, none⟩ = some (.int .u8 253)) (hg0 : g ≠ 9) (hg2 : g ≠ 10) :
    Calls Tryd.prog 71 #[.pointer (some ⟨g, 0, none⟩), .slice (some ⟨b, 0, none⟩) N c] w fun e' w' =>
      e' = .returned .nilIface ∧ Blk w' g 53 (hr1g ct.toNat e s cl (some ⟨a0, 0, none⟩) n c0) ∧ w.grownBy w' (some g) := by
  have hgs := hk.lt
  have hbs := block_lt hin.r0
  have k0 := hk.cell 0
  have k2 := hk.cell 2
  have k3 := hk.cell 3
  have f0 := hk.frozen 0
  have f2 := hk.frozen 2
  have f3 := hk.frozen 3
  have h0 := hin.r0
  have h1 := hin.r1
  have h2 := hin.r2
  simp [hr0g] at k0 k2 k3
  have i0 : (0 : Int) < N := by omega
  have i1 : (1 : Int) < N := by omega
  have i2 : (2 : Int) < N := by omega
  have i13 : decide ((N : Int) < 13) = false := by simp; omega
  have i13' : ¬ ((N : Int) < 13) := by omega
  have hbg : ¬ b = g := fun h => hgb h.symm
  have HK := Lib.hid hk
  have HIN := Lib.hid hin
  have HV := Lib.hid (And.intro v0 v2)
  have HLE := Lib.hid (And.intro hN hNc)
  have HCID := Lib.hid hcid
  have HS := Lib.hid hs
  have HE := Lib.hid he
  clear hk hin v0 v2 hN hNc hcid hs he hn3
  go_enter Tryd.func71, Tryd.ntmps71
  go_wp2_with fail
  have T := ((Tch.set w g 0 (.int .u8 ct.toNat)).trans (Tch.set _ g 2 (.int .u8 254))).trans (Tch.set _ g 3 (.int .u8 253))
  have hk1 := ((HK.out.set_ 0 (.int .u8 ct.toNat)).set_ 2 (.int .u8 254)).set_ 3 (.int .u8 253)
  simp [hr0g] at hk1
  clear k0 k2 k3 f0 f2 f3 h0 h1 h2 HK
  generalize ((w.setCell ⟨g, 0, none⟩ (.int .u8 ct.toNat)).setCell ⟨g, 2, none⟩ (.int .u8 254)).setCell ⟨g, 3, none⟩ (.int .u8 253) = X at *
  have HT := Lib.hid T
  have HK1 := Lib.hid hk1
  have HX := Lib.hid (HIN.out.tch T (by simp; omega))
  clear T hk1
  have G2 : Hid (∀ w, w.cell? ⟨b, 3, none⟩ = some (.int .u8 e1.toNat) → w.cell? ⟨b, 4, none⟩ = some (.int .u8 e2.toNat) → Calls Tryd.prog 93 #[.agg #[], .slice (some ⟨b, 3, none⟩) (N - 3) (c - 3)] w fun e' w' => e' = .returned (.int .u16 (e : Int)) ∧ Below w.heap.size w w') := Lib.hid (fun w h0 h1 => by
    rw [← HE.out]
    exact u16_any b 3 (N - 3) (c - 3) e1.toNat e2.toNat (by have := e1.toNat_lt; omega) (by have := e2.toNat_lt; omega) (by have := HLE.out; omega) w h0 h1)
  have i3 : (3 : Int) ≤ N := by have := HLE.out; omega
  have e3 : ¬ c = 3 := by have := HLE.out; omega
  have HX1 := Lib.hid (HX.out.tch (Tch.drew X) (by simp))
  have HK2 : Hid (Blk X.drew g 53 _) := HK1
  have HT1 := Lib.hid (HT.out.then (Tch.drew X) (by simp))
  clear HX HK1 HT
  first
    | (go_region_with (first
        | (go_at_call 93; refine (G2.out _ HX1.out.r3 HX1.out.r4).mono ?_; rintro e' w3 ⟨rfl, hb3⟩; have hk3 := HK2.out.keep hb3; have c3 := hk3.cell 4; have f3 := hk3.frozen 4; simp at c3; replace hk3 := Lib.hid hk3)))
    | fail "no"
  all_goals
    have hk4 := hk3.out.set_ 4 (.int .u16 (e : Int))
    simp at hk4
    have T4 := (HT1.out.then (Tch.below hb3 []) (by simp)).trans (Tch.set w3 g 4 (.int .u16 (e : Int)))
    have hx4 := (HX1.out.tch (Tch.below hb3 []) (by simp)).tch (Tch.set w3 g 4 (.int .u16 (e : Int))) (by simp; omega)
    clear HX1 HK2 HT1 hk3 c3 f3 hb3 i3 e3 G2
    generalize hW : w3.setCell ⟨g, 4, none⟩ (.int .u16 (e : Int)) = w4 at *
    clear hW
    have HK4 := Lib.hid hk4
    have HT4 := Lib.hid T4
    have HX4 := Lib.hid hx4
    clear hk4 T4 hx4
    have i11 : (11 : Int) ≤ c := by have := HLE.out; omega
    have e5 : ¬ c = 5 := by have := HLE.out; omega
    go_wp2_with fail
    refine upon_make 51 5 (.int .u8 0) 1 Tryd.underlying51 u8info rfl 8 8 rfl rfl (Nat.le_refl _) (by omega) (by simp only [maxLen]; omega) ?_
    intro w5 hown5 hb5 hsz5
    have HO5 : Hid (Own w5.drew w4.heap.size 1 (some ⟨w4.heap.size, 0, none⟩) 8 8 (List.replicate 8 (Value.int .u8 0))) := hown5
    have HK5 := Lib.hid ((HK4.out.keep hb5).keep (below_drew w5))
    have HX5 := Lib.hid ((HX4.out.tch (Tch.below hb5 []) (by simp)).tch (Tch.drew w5) (by simp))
    have HT5 := Lib.hid ((HT4.out.then (Tch.below hb5 []) (by simp)).then (Tch.drew w5) (by simp))
    have HL4 : Hid (w.heap.size ≤ w4.heap.size) := HT4.out.size
    clear hown5 hb5 hsz5 HK4 HX4 HT4
    go_wp2_with fail
    refine wp_region_still_tail 4 (by kernel_rfl) (by kernel_rfl) ?_
    simp only [List.take_succ_cons, List.take_zero, List.drop_succ_cons, List.drop_zero]
    change wpStill _ _ (World.drew w5) (fun a => wpList _ _ _ _ a (World.drew w5)) _ _
    generalize World.drew w5 = wd at *
    repeat still_step
    refine wpStill_nil ?_
    refine held_copy_part rfl (.tmp 65) (.tmp 67) 51 51 rfl w4.heap.size 5 Tryd.underlying51 (by kernel_rfl) (k := 2) (p := 2) (by omega) rfl rfl HO5.out (ys := vs [s1, s2, s3, s4, s5, s6]) rfl (by simp [vs]) (by simp [vs]) HX5.out.r5 (vs_one _) ?_
    intro w6 hO6 hg6
    have HR6 : Hid (Rd w6 (some ⟨w4.heap.size, 0, none⟩) (vs [0, 0, s1, s2, s3, s4, s5, s6])) := Lib.hid (by simpa [vs, List.replicate] using hO6.rd)
    have hn6 : g ≠ w4.heap.size := by have := HL4.out; omega
    have hn6' : b ≠ w4.heap.size := by have := HL4.out; omega
    have HK6 := Lib.hid (HK5.out.grown hg6 (by simpa using hn6))
    have HT6 := Lib.hid (HT5.out.then (Tch.grown hg6) (by simp; exact .inr HL4.out))
    clear hO6 hg6 HK5 HX5 HT5 HO5 hn6 hn6' i11 e5
    have HU := Lib.hid (u64_get w4.heap.size 0 8 8 0 0 s1 s2 s3 s4 s5 s6 s HS.out (by omega) w6 HR6.out)
    go_wp2_with fail
    refine HU.out.mono ?_
    rintro e' w7 ⟨rfl, hb7⟩
    have hk7 := HK6.out.keep hb7
    have c5 := hk7.cell 5
    have f5 := hk7.frozen 5
    simp at c5
    have HK7 := Lib.hid (hk7.set_ 5 (.int .u64 (s : Int)))
    have HT7 := Lib.hid ((HT6.out.then (Tch.below hb7 []) (by simp)).trans (Tch.set w7 g 5 (.int .u64 (s : Int))))
    clear hk7 hb7 HU HK6 HT6 HR6
    go_wp2_with fail
    clear c5 f5
    generalize hW : w7.setCell ⟨g, 5, none⟩ (.int .u64 (s : Int)) = w8 at *
    clear hW
    have HB : Hid (∀ w', Below w8.heap.size w8 w' → w'.cell? ⟨g, 2, none⟩ = some (.int .u8 254) ∧ w'.cell? ⟨g, 3, none⟩ = some (.int .u8 253) ∧ w'.cell? ⟨9, 0, none⟩ = some (.int .u8 254) ∧ w'.cell? ⟨9, 1, none⟩ = some (.int .u8 255) ∧ w'.cell? ⟨10, 0, none⟩ = some (.int .u8 254) ∧ w'.cell? ⟨10, 1, none⟩ = some (.int .u8 253)) := Lib.hid (fun w' hb => by
      have hk := HK7.out.keep hb
      have ht := HT7.out.then (Tch.below hb []) (by simp)
      exact ⟨(hk.cell 2).trans rfl, (hk.cell 3).trans rfl, ht.cell HV.out.1.1 (by simpa using fun h => hg0 h.symm), ht.cell HV.out.1.2 (by simpa using fun h => hg0 h.symm), ht.cell HV.out.2.1 (by simpa using fun h => hg2 h.symm), ht.cell HV.out.2.2 (by simpa using fun h => hg2 h.symm)⟩)
    have EN := Lib.hid verEq_no
    have EY := Lib.hid verEq_yes
    go_region_held_law (fun w' => w'.cell? ⟨g, 2, none⟩ = some (.int .u8 254) ∧ w'.cell? ⟨g, 3, none⟩ = some (.int .u8 253) ∧ w'.cell? ⟨9, 0, none⟩ = some (.int .u8 254) ∧ w'.cell? ⟨9, 1, none⟩ = some (.int .u8 255) ∧ w'.cell? ⟨10, 0, none⟩ = some (.int .u8 254) ∧ w'.cell? ⟨10, 1, none⟩ = some (.int .u8 253))
      ((refine HB.out _ ?_; (repeat (first | exact Below.refl _ _ | refine below_two ?_ hb1 | refine below_two ?_ hb2 | refine Below.drew ?_)); done)) (first
      | (go_at_call 95; with_reducible refine (EN.out _).mono ?_; rintro e' w1 ⟨rfl, hb1⟩)
      | (go_at_call 95; with_reducible refine (EY.out _).mono ?_; rintro e' w2 ⟨rfl, hb2⟩))
    go_wp2_with fail
    go_ret
    have hbE : Below w8.heap.size w8 w2 := by
      refine below_two (w1 := w1) ?_ ?_
      · first | exact hb1 | exact below_two (below_drew _) hb1
      · first | exact hb2 | exact below_two (below_drew _) hb2
    refine ⟨rfl, by simpa [hr1g] using HK7.out.keep hbE, (HT7.out.then (Tch.below hbE []) (by simp)).toGrown⟩
theorem be2_two (m : Nat) (h : m < 65536) : ∃ a b, be 2 m = [a, b] ∧ a.toNat * 256 + b.toNat = m :=
  ⟨UInt8.ofNat (m / 256), UInt8.ofNat m, by simp [be], by rw [UInt8.toNat_ofNat', UInt8.toNat_ofNat']; omega⟩
theorem be6_six (m : Nat) (h : m < 281474976710656) : ∃ a b c d e f, be 6 m = [a, b, c, d, e, f] ∧ m = (0 : UInt8).toNat * 72057594037927936 + ((0 : UInt8).toNat * 281474976710656 + (a.toNat * 1099511627776 + (b.toNat * 4294967296 + (c.toNat * 16777216 + (d.toNat * 65536 + (e.toNat * 256 + f.toNat)))))) :=
  ⟨UInt8.ofNat (m / 1099511627776), UInt8.ofNat (m / 4294967296), UInt8.ofNat (m / 16777216), UInt8.ofNat (m / 65536), UInt8.ofNat (m / 256), UInt8.ofNat m, by simp [be], by
    rw [UInt8.toNat_ofNat', UInt8.toNat_ofNat', UInt8.toNat_ofNat', UInt8.toNat_ofNat', UInt8.toNat_ofNat', UInt8.toNat_ofNat']
    show m = 0 * 72057594037927936 + (0 * 281474976710656 + _)
    omega⟩
theorem hdIn_of {w : World} {b : Nat} {ct e1 e2 s1 s2 s3 s4 s5 s6 : UInt8} {cid t l : List UInt8} (hl : l = ct :: 254 :: 253 :: e1 :: e2 :: s1 :: s2 :: s3 :: s4 :: s5 :: s6 :: (cid ++ t)) (hr : Rd w (some ⟨b, 0, none⟩) (vs l)) : HdIn w b l ct e1 e2 s1 s2 s3 s4 s5 s6 cid := by
  subst hl
  have h0 := hr.byte 0 (by simp)
  have h1 := hr.byte 1 (by simp)
  have h2 := hr.byte 2 (by simp)
  have h3 := hr.byte 3 (by simp)
  have h4 := hr.byte 4 (by simp)
  have h5 := Rd.part hr 5 6
  have h11 := Rd.part hr 11 cid.length
  simp at h0 h1 h2 h3 h4 h5 h11
  exact ⟨h0, h1, h2, h3, h4, h5, h11⟩
end Go.Proofs.YtpedkkmoplbdhaaDoor
