/- Walks: a list of signature schemes for certificates, read from a text and told as data. -/
import Derived.Test.YtkjpkenhpmjikaaDoorSac
import Derived.Deep.RegionWith
namespace Go.Proofs.YtkjpkenhpmjikaaDoor
open Go.RowKit Go.Cv
set_option maxRecDepth 100000
set_option linter.unusedVariables false
theorem pairInfo : (Tryd.prog.info? 96).map (fun i => (i.zero, i.size, i.bytes)) = some (some (.agg #[.int .u16 0, .int .u16 0]), 2, 4) := by kernel_rfl
theorem sacType (v : Value) (w : World) :
    Calls Tryd.prog 107 #[.agg #[v]] w fun e w' => e = .returned (.int .u16 50) ∧ Below w.heap.size w w' := by
  go_enter Tryd.func107, Tryd.ntmps107
  go_wp2_with fail
  go_ret
  exact ⟨rfl, below_alloc _ _⟩
set_option maxHeartbeats 1000000 in
theorem sacUnm_ok (g b c : Nat) (l : List UInt8) (x y u v : UInt8) (zs : List (Nat × Nat)) (k : Nat) (hl : l = 0 :: 50 :: x :: y :: u :: v :: flat 2 (codes zs)) (hxy : x.toNat * 256 + y.toNat = k * 2 + 2) (huv : u.toNat * 256 + v.toNat = k * 2) (hkk : zs.length = k) (hk1 : k < 1000) (hz : Sch zs) (w : World)
    (hk : Blk w g 140 #[.slice none 0 0]) (hr : Rd w (some ⟨b, 0, none⟩) (vs l)) (hlc : l.length ≤ c) (hbs : b < w.heap.size) (hgb : g ≠ b) :
    Calls Tryd.prog 72 #[.pointer (some ⟨g, 0, none⟩), .slice (some ⟨b, 0, none⟩) l.length c] w fun e w' =>
      e = .returned .nilIface ∧ ∃ A' c', Blk w' g 140 #[.slice A' k c'] ∧ Rd w' A' (pv zs) ∧ w.grownBy w' (some g) := by
  have hgs := hk.lt
  have k0 := hk.cell 0
  have f0 := hk.frozen 0
  simp at k0
  have HC := Lib.hid (fun h0 w hk hr hbs h0s h0g h0b => sac_ok 50 g b c h0 l x y u v zs k (by omega) 0 50 rfl hl hxy huv hkk hk1 hz w hk hr hlc hbs hgb h0s h0g h0b)
  have HK := Lib.hid hk
  have HR := Lib.hid hr
  clear hl hxy huv hkk hk1 hz hk hr hlc
  go_enter Tryd.func72, Tryd.ntmps72
  go_wp2_with fail
  have TS := Tch.set w g 0 (.slice (some ⟨w.heap.size, 0, none⟩) 0 0)
  have hk2 := (HK.out.set_ 0 (.slice (some ⟨w.heap.size, 0, none⟩) 0 0)).alloc (.cells #[] 201)
  have hr2 := (HR.out.tch TS (by simp; omega)).tch (Tch.alloc _ (.cells #[] 201)) (by simp)
  have T2 := TS.then (Tch.alloc _ (.cells #[] 201)) (by simp)
  have hsz : ((w.setCell ⟨g, 0, none⟩ (.slice (some ⟨w.heap.size, 0, none⟩) 0 0)).alloc (.cells #[] 201)).heap.size = w.heap.size + 1 := by simp
  clear k0 f0 TS HK HR
  generalize (w.setCell ⟨g, 0, none⟩ (.slice (some ⟨w.heap.size, 0, none⟩) 0 0)).alloc (.cells #[] 201) = w2 at *
  have q2 := hk2.cell 0
  simp at q2
  have HK2 : Hid (Blk w2.drew g 140 #[.slice (some ⟨w.heap.size, 0, none⟩) 0 0]) := Lib.hid (by simpa using hk2.drew)
  have HR2 : Hid (Rd w2.drew (some ⟨b, 0, none⟩) (vs l)) := hr2
  have HT2 := Lib.hid T2
  have LS : w.heap.size < w2.heap.size := by omega
  have q2d : w2.drew.cell? ⟨g, 0, none⟩ = some (.slice (some ⟨w.heap.size, 0, none⟩) 0 0) := q2
  have lbd : b < w2.drew.heap.size := (by omega : b < w2.heap.size)
  have lhd : w.heap.size < w2.drew.heap.size := LS
  have nhg : w.heap.size ≠ g := by omega
  have nhb : w.heap.size ≠ b := by omega
  clear hk2 hr2 T2 hsz q2
  go_region_with (first
    | (go_at_call 107; refine (sacType _ _).mono ?_; rintro e w4 ⟨rfl, hb4⟩)
    | (go_at_call 106; refine (HC.out w.heap.size w4 (HK2.out.keep hb4) (HR2.out.keep hb4) (Nat.lt_of_lt_of_le lbd hb4.size) (Nat.lt_of_lt_of_le lhd hb4.size) nhg nhb).mono ?_; rintro e w5 ⟨rfl, A', c', hk5, hr5, ht5⟩))
  all_goals
    have T5 : Tch [g] w w5 := ((HT2.out.then (Tch.drew _) (by simp)).then (Tch.below hb4 []) (by simp)).then ht5 (by simp)
    go_wp2_with fail
    go_ret
    exact ⟨rfl, _, _, hk5, hr5, T5.toGrown⟩
set_option maxHeartbeats 1000000 in
theorem pairsData_any (b o n c : Nat) (zs : List (Nat × Nat)) (hl : zs.length = n) (hn : (n : Int) ≤ 1000) (h0 : 0 < n) (w : World) (hr : Rd w (some ⟨b, o, none⟩) (pv zs)) :
    Calls Tryd.prog 108 #[.slice (some ⟨b, o, none⟩) n c] w fun e w' => ∃ a c', e = .returned (.slice (some ⟨a, 0, none⟩) n c') ∧ Rd w' (some ⟨a, 0, none⟩) (pv zs) ∧ w.heap.size ≤ a ∧ Below w.heap.size w w' := by
  have HR := Lib.hid hr
  have HL := Lib.hid hl
  have H0 := Lib.hid h0
  have HB : Hid (b < w.heap.size) := Lib.hid (by
    obtain ⟨p, hp⟩ : ∃ p, zs[0]? = some p := ⟨_, List.getElem?_eq_getElem (by rw [hl]; exact h0)⟩
    exact block_lt (pairCell hr 0 p.1 p.2 hp).1)
  clear hr hl h0
  go_enter Tryd.func108, Tryd.ntmps108
  go_wp2_with fail
  go_loopw [3, 8] (fun v i wr => ∃ j : Nat, j ≤ n ∧ i = .int .i64 j ∧ ∃ A' c', Hi w.heap.size A' ∧ v = .slice A' j c' ∧ Own wr w.heap.size 2 A' j c' (pv (zs.take j)) ∧ Below w.heap.size w wr) (fun _ i _ => n - (intOf i).toNat)
  case atStart => exact ⟨0, Nat.zero_le _, rfl, none, 0, .inl rfl, rfl, Own.nil _ _ _, Below.refl _ _⟩
  case round =>
    obtain ⟨j, hj, rfl, A', c', hA, rfl, hor, hbr⟩ := hrel
    have HOR := Lib.hid hor
    have HBR := Lib.hid hbr
    have LR := hbr.size
    clear hor hbr
    by_cases hlt : j < n
    · obtain ⟨⟨h, s⟩, hv⟩ : ∃ p, zs[j]? = some p := ⟨_, List.getElem?_eq_getElem (by rw [HL.out]; exact hlt)⟩
      have hc := pairCell (HR.out.keep HBR.out) j h s hv
      have c0 := hc.1
      have c1 := hc.2
      have HV := Lib.hid hv
      have j1 : (j : Int) + 1 ≤ 1000 := by omega
      clear hv hc
      go_wp2_with (at_builtin; refine Held.on ?_)
      have hrow := rd_pair (wr.alloc (.cells #[.int .u16 (h : Int), .int .u16 (s : Int)] 201)) 96 (.int .u16 (h : Int)) (.int .u16 (s : Int))
      rw [World.size_alloc] at hrow
      refine held_append rfl (.tmp 12) (.tmp 18) 29 29 rfl w.heap.size 96 _ 2 4 Tryd.underlying29 (.inl Tryd.underlying29) pairInfo rfl (by omega) (xs := pv (zs.take j)) (ys := [.int .u16 (h : Int), .int .u16 (s : Int)]) rfl rfl ((HOR.out.keep (below_alloc _ _)).keep (below_alloc _ _)) ⟨rfl, by intro v h; simp at h; rcases h with rfl | rfl <;> rfl, .inl ⟨_, _, rfl, hrow⟩⟩ (by omega) (by simp only [maxLen]; omega) (by simp; omega) ?_
      intro A2 c3 w9 hO9 hg9 hor9
      have t9 : Tch (A'.map (·.block)).toList wr w9 := (((Tch.alloc wr _).trans (Tch.alloc _ _)).more (by simp)).trans (Tch.grown hg9)
      have hA2 : Hi w.heap.size A2 := hA.new hor9 (by simp; omega)
      have hb9 : Below w.heap.size w w9 := ((Tch.below HBR.out []).then t9 (fun k hk => .inr (hA.inn k hk))).toBelow (Nat.le_refl _)
      rw [pv_snoc zs j h s HV.out] at hO9
      have HO9 := Lib.hid hO9
      have HB9 := Lib.hid hb9
      clear hO9 hg9 hor9 t9 hb9 hrow c0 c1
      go_wp2_with fail
      go_roundw
      case rel => exact ⟨j + 1, by omega, by go_num, A2, c3, hA2, rfl, HO9.out, HB9.out⟩
      case measure => simp [intOf]; omega
    · obtain rfl : j = n := by omega
      have e : zs.take j = zs := List.take_of_length_le (by rw [HL.out]; exact Nat.le_refl _)
      have HE := Lib.hid e
      clear e
      go_wp2_with fail
      go_ret
      have h := HOR.out
      rw [HE.out] at h
      have hn0 := H0.out
      rcases hA with rfl | ⟨a, rfl, ha⟩
      · obtain ⟨_, h2, _, h3 | ⟨_, _, h4, _⟩⟩ := h
        · omega
        · simp at h4
      · exact ⟨a, _, rfl, h.rd, ha, HBR.out⟩
def prMsg (t : Int) (A : Option Addr) (n c : Nat) : Array Value := #[.int .u16 t, .string (S []), .slice none 0 0, .slice none 0 0, .slice A n c, .bool false, .int .u32 0, .bool false, .slice none 0 0, .slice none 0 0, .slice none 0 0, .slice none 0 0, .slice none 0 0]
set_option maxHeartbeats 1000000 in
theorem dataSac_any (g b o n c : Nat) (zs : List (Nat × Nat)) (w : World) (hk : Blk w g 140 #[.slice (some ⟨b, o, none⟩) n c]) (hl : zs.length = n) (hn : (n : Int) ≤ 1000) (h0 : 0 < n) (hr : Rd w (some ⟨b, o, none⟩) (pv zs)) :
    Calls Tryd.prog 73 #[.pointer (some ⟨g, 0, none⟩)] w fun e w' => ∃ a c', e = .returned (.agg (prMsg 50 (some ⟨a, 0, none⟩) n c')) ∧ Rd w' (some ⟨a, 0, none⟩) (pv zs) ∧ w.heap.size ≤ a ∧ Below w.heap.size w w' := by
  have hgs := hk.lt
  go_enter Tryd.func73, Tryd.ntmps73
  go_wp2_with (with_reducible refine Held.store 35 ?_)
  refine held_store_at (g := w.heap.size + 1) (by simp) (cells := prMsg 50 none 0 0) extInfo rfl rfl rfl (by simp [prMsg, Value.oneCell']) fun w1 hm hb' hsz => ?_
  have hb := below_two (below_alloc w _) hb'
  have hM := (Blk.new w 35 _).keep hb'
  have q0 := (hk.keep hb).cell 0
  have LL : w.heap.size + 1 < w1.heap.size := hm.lt
  simp at q0
  have HP := Lib.hid (pairsData_any b o n c zs hl hn h0 w1 (hr.keep hb))
  have HM := Lib.hid hm
  have HM0 := Lib.hid hM
  have HB := Lib.hid hb
  clear hk hm hM hr hb hb' hsz hl hn h0
  go_wp2_with fail
  refine HP.out.mono ?_
  rintro e w2 ⟨a, c', rfl, hra, haw, hb2⟩
  have hM2 := HM.out.keep hb2
  have m4 := hM2.cell 4
  have f4 := hM2.frozen 4
  simp [prMsg] at m4
  have HM2 := Lib.hid hM2
  have HM02 := Lib.hid (HM0.out.keep hb2)
  have HB2 := Lib.hid (below_two HB.out hb2)
  have HRA := Lib.hid hra
  clear hM2 hb2 HP hra
  go_wp2_with (with_reducible refine Held.load 35 ?_)
  refine held_load_row (cs := prMsg 50 (some ⟨a, 0, none⟩) n c') (by simpa [prMsg] using HM2.out.set_ 4 (.slice (some ⟨a, 0, none⟩) n c')) Tryd.underlying35 extInfo rfl ?_
  have TS := Tch.set w2 (w.heap.size + 1) 4 (.slice (some ⟨a, 0, none⟩) n c')
  have HM4 := Lib.hid (HM02.out.tch TS (by simp))
  have HB4 := Lib.hid (HB2.out.setCell (p := ⟨w.heap.size + 1, 4, none⟩) (by simp) (.slice (some ⟨a, 0, none⟩) n c'))
  have HR4 := Lib.hid (HRA.out.tch TS (by simp; omega))
  clear TS
  go_wp2_with (with_reducible refine Held.store 35 ?_)
  refine held_store_row (cells := prMsg 50 (some ⟨a, 0, none⟩) n c') HM4.out extInfo rfl rfl rfl (by simp [prMsg, Value.oneCell']) fun w3 hk3 hg3 _ => ?_
  have HR5 := Lib.hid (HR4.out.tch (Tch.grown hg3) (by simp; omega))
  go_wp2_with fail
  exact bodyPost_cell rfl rfl rfl hk3 Tryd.underlying35 extInfo ⟨a, _, rfl, HR5.out, by omega, HB4.out.grown hg3 HB4.out.size (fun k hk' => by simp at hk'; omega)⟩
theorem sacRead_ok (l : List UInt8) (x y u v : UInt8) (zs : List (Nat × Nat)) (k : Nat) (hl : l = 0 :: 50 :: x :: y :: u :: v :: flat 2 (codes zs)) (hxy : x.toNat * 256 + y.toNat = k * 2 + 2) (huv : u.toNat * 256 + v.toNat = k * 2) (hkk : zs.length = k) (hk1 : k < 1000) (h0 : 0 < k) (hz : Sch zs) (w : World) :
    Calls Tryd.prog 33 #[.string (S l)] w fun e w' => ∃ a c', e = .returned (.tuple #[.agg (prMsg 50 (some ⟨a, 0, none⟩) k c'), .bool true]) ∧ Rd w' (some ⟨a, 0, none⟩) (pv zs) ∧ Below w.heap.size w w' := by
  have hll : l.length = k * 2 + 6 := by
    have hF : (flat 2 (codes zs)).length = k * 2 := by rw [flat_length]; unfold codes; rw [List.length_map, hkk]
    rw [hl]; simp [hF]
  have HC := Lib.hid (fun g b c w hk hr hlc hbs hgb => sacUnm_ok g b c l x y u v zs k hl hxy huv hkk hk1 hz w hk hr hlc hbs hgb)
  have HN : Hid ((k : Int) ≤ 1000) := Lib.hid (by omega)
  have HLM : Hid (l.length ≤ maxLen) := Lib.hid (by simp only [maxLen]; omega)
  have HKK := Lib.hid hkk
  clear hl hxy huv hkk hk1 hz hll
  go_enter Tryd.func33, Tryd.ntmps33
  go_wp2_with fail
  refine upon_conv_sb 9 54 5 Tryd.underlying9 Tryd.underlying54 Tryd.underlying5 l HLM.out ?_
  intro c w1 hown hb hlt
  have hk := ((Blk.new _ 140 #[.slice none 0 0])).keep hb
  have hM := ((Blk.new w 35 _).alloc _).keep hb
  have hr := hown.rd
  have hb1 : Below w.heap.size w w1 := below_two (by (repeat (first | assumption | exact Below.refl _ _ | refine Below.drew ?_ | refine Below.setCell ?_ (by first | omega | (simp; done) | (simp; omega)) _ | refine Below.alloc ?_ (by first | omega | (simp; done) | (simp; omega)) _))) hb
  have hlc := hown.2.1
  simp only [World.size_alloc] at hk hM hr hlt
  clear hown hb
  go_wp2_with fail
  refine (HC.out (w.heap.size + 1) _ c w1 hk hr hlc hlt (by omega)).mono ?_
  rintro e w2 ⟨rfl, A', c', hkx, hr2, hg2⟩
  have hM2 := hM.grown hg2 (by simp)
  have hb2 := hb1.grown hg2 hb1.size (fun k hk => by simp at hk; omega)
  obtain ⟨b2, o2, rfl⟩ : ∃ b2 o2, A' = some ⟨b2, o2, none⟩ := by
    rcases hr2 with h | ⟨b2, o2, h, _⟩
    · have := congrArg List.length h
      rw [pv_length, HKK.out] at this
      simp at this
      omega
    · exact ⟨b2, o2, h⟩
  clear hk hr hM hb1 hg2 HC
  go_wp2_with fail
  refine (dataSac_any (w.heap.size + 1) b2 o2 k c' zs w2 hkx HKK.out HN.out h0 hr2).mono ?_
  rintro e w3 ⟨a3, c3, rfl, hr3, ha3, hb3⟩
  have hM3 := hM2.keep hb3
  have hb4 := below_two hb2 hb3
  have LL := hM2.lt
  clear hkx hr2 hb2 hb3
  go_wp2_with (with_reducible refine Held.store 35 ?_)
  refine held_store_row (cells := prMsg 50 (some ⟨a3, 0, none⟩) k c3) hM3 extInfo rfl rfl rfl (by simp [prMsg, Value.oneCell']) fun w5 hk5 hg5 _ => ?_
  have HR5 := Lib.hid (hr3.tch (Tch.grown hg5) (by simp; omega))
  go_wp2_with fail
  exact bodyPost_cell2 rfl rfl rfl hk5 Tryd.underlying35 extInfo ⟨_, _, rfl, HR5.out, hb4.grown hg5 hb4.size (fun k hk' => by simp at hk'; omega)⟩
end Go.Proofs.YtkjpkenhpmjikaaDoor
