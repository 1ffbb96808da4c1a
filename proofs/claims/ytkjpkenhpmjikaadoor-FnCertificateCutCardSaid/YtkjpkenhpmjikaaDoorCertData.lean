/- Walks: certificates, told as data and read from a text. -/
import Derived.Test.YtkjpkenhpmjikaaDoorCert
namespace Go.Proofs.YtkjpkenhpmjikaaDoor
open Go.RowKit Go.Cv
set_option maxRecDepth 100000
set_option linter.unusedVariables false
theorem strInfo : (Tryd.prog.info? 9).map (fun i => (i.zero, i.size, i.bytes)) = some (some (.string ByteArray.empty), 1, 16) := by kernel_rfl
theorem crInfo : (Tryd.prog.info? 58).map (·.size) = some 25 := by kernel_rfl
def crMsg (t : Int) (A : Option Addr) (n c : Nat) : Array Value := #[.int .u8 t, .bool false, .int .u8 0, .int .u8 0, .int .u32 0, .string (S []), .string (S []), .string (S []), .slice none 0 0, .slice none 0 0, .slice none 0 0, .slice A n c, .slice none 0 0, .slice none 0 0, .int .u16 0, .int .u16 0, .string (S []), .string (S []), .string (S []), .int .i64 0, .int .u8 0, .int .u16 0, .string (S []), .string (S []), .slice none 0 0]
set_option maxHeartbeats 1000000 in
theorem plain_any (base a o k c : Nat) (xs : List Value) (hk : (k : Int) ≤ 30000) (w : World) (hr : Rd w (some ⟨a, o, none⟩) xs) (hl : xs.length = k) (hE : Elems base (some ⟨a, o, none⟩) w xs) :
    Calls Tryd.prog 111 #[.slice (some ⟨a, o, none⟩) k c] w fun e w' => ∃ A' c', e = .returned (.slice A' k c') ∧ Below w.heap.size w w' := by
  have HR := Lib.hid hr
  have HE := Lib.hid hE
  have HL := Lib.hid hl
  clear hr hE hl
  go_enter Tryd.func111, Tryd.ntmps111
  go_wp2_with fail
  go_loopw [3, 8] (fun v i wr => ∃ j : Nat, j ≤ k ∧ i = .int .i64 j ∧ ∃ A' c' ys, Hi w.heap.size A' ∧ v = .slice A' j c' ∧ Own wr w.heap.size 1 A' j c' ys ∧ Below w.heap.size w wr) (fun _ i _ => k - (intOf i).toNat)
  case atStart => exact ⟨0, Nat.zero_le _, rfl, none, 0, [], .inl rfl, rfl, Own.nil _ _ _, Below.refl _ _⟩
  case round =>
    obtain ⟨j, hj, rfl, A', c', ys, hA, rfl, hor, hbr⟩ := hrel
    have HOR := Lib.hid hor
    have HBR := Lib.hid hbr
    have LR := hbr.size
    clear hor hbr
    by_cases hlt : j < k
    · obtain ⟨eb, n, c2, l, hx, hll, _, hrl⟩ := HE.out.at_ j (by rw [HL.out]; exact hlt)
      have hcell : wr.cell? ⟨a, o + j, none⟩ = some (.slice (some ⟨eb, 0, none⟩) n c2) := by
        refine keep_of_below HBR.out _ _ ?_
        rcases HR.out with h | ⟨b', o', hAA, h⟩
        · rw [h] at hx; simp at hx
        · injection hAA with hAA
          injection hAA with hb ho
          subst hb ho
          exact h j _ hx
      have hrl2 := Lib.hid (hrl.keep HBR.out)
      have HLL := Lib.hid hll
      have j1 : (j : Int) + 1 ≤ 30000 := by omega
      clear hrl hx hll
      go_wp2_with fail
      refine upon_conv_bs 54 9 5 Tryd.underlying54 Tryd.underlying5 Tryd.underlying9 l _ _ _ HLL.out hrl2.out ?_
      clear hcell
      go_wp2_with (at_builtin; refine Held.on ?_)
      refine held_append rfl (.tmp 12) (.tmp 15) 28 28 rfl w.heap.size 9 _ 1 16 Tryd.underlying28 (.inl Tryd.underlying28) strInfo rfl (by omega) (xs := ys) (ys := [.string (S l)]) rfl rfl (HOR.out.keep (below_alloc _ _)) ⟨rfl, by intro v h; simp at h; subst h; rfl, .inl ⟨_, _, rfl, rd_single _ _ _⟩⟩ (by omega) (by simp only [maxLen]; omega) (by simp; omega) ?_
      intro A2 c3 w9 hO9 hg9 hor9
      have t9 : Tch (A'.map (·.block)).toList wr w9 := ((Tch.alloc wr _).more (by simp)).trans (Tch.grown hg9)
      have hA2 : Hi w.heap.size A2 := hA.new hor9 (by simp; omega)
      have hb9 : Below w.heap.size w w9 := ((Tch.below HBR.out []).then t9 (fun k hk => .inr (hA.inn k hk))).toBelow (Nat.le_refl _)
      have HO9 := Lib.hid hO9
      have HB9 := Lib.hid hb9
      clear hO9 hg9 hor9 t9 hb9
      go_wp2_with fail
      go_roundw
      case rel => exact ⟨j + 1, by omega, by go_num, A2, c3, _, hA2, rfl, HO9.out, HB9.out⟩
      case measure => simp [intOf]; omega
    · obtain rfl : j = k := by omega
      go_wp2_with fail
      go_ret
      exact ⟨_, _, rfl, HBR.out⟩
set_option maxHeartbeats 1000000 in
theorem dataCert_any (base g a o k c : Nat) (xs : List Value) (hk : (k : Int) ≤ 30000) (w : World) (hkg : Blk w g 146 #[.slice (some ⟨a, o, none⟩) k c]) (hr : Rd w (some ⟨a, o, none⟩) xs) (hl : xs.length = k) (hE : Elems base (some ⟨a, o, none⟩) w xs) :
    Calls Tryd.prog 76 #[.pointer (some ⟨g, 0, none⟩)] w fun e w' => ∃ A' c', e = .returned (.agg (crMsg 11 A' k c')) ∧ Below w.heap.size w w' := by
  have hgs := hkg.lt
  go_enter Tryd.func76, Tryd.ntmps76
  go_wp2_with (with_reducible refine Held.store 58 ?_)
  refine held_store_at (g := w.heap.size + 1) (by simp) (cells := crMsg 11 none 0 0) crInfo rfl rfl rfl (by simp [crMsg, Value.oneCell']) fun w1 hm hb' hsz => ?_
  have hb := below_two (below_alloc w _) hb'
  have hM := (Blk.new w 58 _).keep hb'
  have q0 := (hkg.keep hb).cell 0
  have LL : w.heap.size + 1 < w1.heap.size := hm.lt
  simp at q0
  have HP := Lib.hid (plain_any base a o k c xs hk w1 (hr.keep hb) hl (hE.step (Tch.below hb []) (by simp)))
  have HM := Lib.hid hm
  have HM0 := Lib.hid hM
  have HB := Lib.hid hb
  clear hkg hm hM hr hb hb' hsz hE hl
  go_wp2_with fail
  refine HP.out.mono ?_
  rintro e w2 ⟨A', c', rfl, hb2⟩
  have hM2 := HM.out.keep hb2
  have m11 := hM2.cell 11
  have f11 := hM2.frozen 11
  simp [crMsg] at m11
  have HM2 := Lib.hid hM2
  have HM02 := Lib.hid (HM0.out.keep hb2)
  have HB2 := Lib.hid (below_two HB.out hb2)
  clear hM2 hb2 HP
  go_wp2_with (with_reducible refine Held.load 58 ?_)
  refine held_load_row (cs := crMsg 11 A' k c') (by simpa [crMsg] using HM2.out.set_ 11 (.slice A' k c')) Tryd.underlying58 crInfo rfl ?_
  have TS := Tch.set w2 (w.heap.size + 1) 11 (.slice A' k c')
  have HM4 := Lib.hid (HM02.out.tch TS (by simp))
  have HB4 := Lib.hid (HB2.out.setCell (p := ⟨w.heap.size + 1, 11, none⟩) (by simp) (.slice A' k c'))
  clear TS
  go_wp2_with (with_reducible refine Held.store 58 ?_)
  refine held_store_row (cells := crMsg 11 A' k c') HM4.out crInfo rfl rfl rfl (by simp [crMsg, Value.oneCell']) fun w3 hk3 hg3 _ => ?_
  go_wp2_with fail
  exact bodyPost_cell rfl rfl rfl hk3 Tryd.underlying58 crInfo ⟨_, _, rfl, HB4.out.grown hg3 HB4.out.size (fun k hk' => by simp at hk'; omega)⟩
theorem certRead_ok (l : List UInt8) (x y z : UInt8) (zs : List (List UInt8)) (hl : l = x :: y :: z :: txt zs) (N k : Nat) (hN : x.toNat * 65536 + y.toNat * 256 + z.toNat = N) (hNt : (txt zs).length = N) (hN6 : N ≤ 60000) (hkk : zs.length = k) (h0 : 0 < k) (hz : ∀ v ∈ zs, 0 < List.length v) (w : World) :
    Calls Tryd.prog 38 #[.string (S l)] w fun e w' => ∃ A' c', e = .returned (.tuple #[.agg (crMsg 11 A' k c'), .bool true]) ∧ Below w.heap.size w w' := by
  have hll : l.length = N + 3 := by rw [hl]; simp [hNt]
  have HC := Lib.hid (fun g b c x0 w hk hr hlc hbs hgb => cert_ok g b c l x y z zs hl N k hN hNt hN6 hkk hz x0 w hk hr hlc hbs hgb)
  have HLM : Hid (l.length ≤ maxLen) := Lib.hid (by simp only [maxLen]; omega)
  have HN : Hid ((k : Int) ≤ 30000) := Lib.hid (by have := txt_count zs hz; omega)
  clear hl hll hN hNt hN6 hkk hz
  go_enter Tryd.func38, Tryd.ntmps38
  go_wp2_with fail
  refine upon_conv_sb 9 54 5 Tryd.underlying9 Tryd.underlying54 Tryd.underlying5 l HLM.out ?_
  intro c w1 hown hb hlt
  have hk := ((Blk.new _ 146 #[.slice none 0 0])).keep hb
  have hM := ((Blk.new w 58 _).alloc _).keep hb
  have hr := hown.rd
  have hb1 : Below w.heap.size w w1 := below_two (by (repeat (first | assumption | exact Below.refl _ _ | refine Below.drew ?_ | refine Below.setCell ?_ (by first | omega | (simp; done) | (simp; omega)) _ | refine Below.alloc ?_ (by first | omega | (simp; done) | (simp; omega)) _))) hb
  have hlc := hown.2.1
  simp only [World.size_alloc] at hk hM hr hlt
  clear hown hb
  go_wp2_with fail
  refine (HC.out (w.heap.size + 1) _ c _ w1 hk hr hlc hlt (by omega)).mono ?_
  rintro e w2 ⟨rfl, A', c', xs, hkx, hox, hex, hg2⟩
  have hM2 := hM.grown hg2 (by simp)
  have hb2 := hb1.grown hg2 hb1.size (fun k hk => by simp at hk; omega)
  have hxl := hox.1
  rw [Nat.mul_one] at hxl
  obtain ⟨b2, o2, rfl⟩ : ∃ b2 o2, A' = some ⟨b2, o2, none⟩ := by
    obtain ⟨_, h2, _, h | ⟨b2, o2, h, _⟩⟩ := hox
    · omega
    · exact ⟨b2, o2, h⟩
  have HD := Lib.hid (dataCert_any _ (w.heap.size + 1) b2 o2 k c' xs HN.out w2 hkx hox.rd hxl hex)
  clear hk hr hM hb1 hg2 HC hox hex hkx hxl
  go_wp2_with fail
  refine HD.out.mono ?_
  rintro e w3 ⟨A3, c3, rfl, hb3⟩
  have hM3 := hM2.keep hb3
  have hb4 := below_two hb2 hb3
  clear hM2 hb2 hb3
  go_wp2_with (with_reducible refine Held.store 58 ?_)
  refine held_store_row (cells := crMsg 11 A3 k c3) hM3 crInfo rfl rfl rfl (by simp [crMsg, Value.oneCell']) fun w5 hk5 hg5 _ => ?_
  go_wp2_with fail
  exact bodyPost_cell2 rfl rfl rfl hk5 Tryd.underlying58 crInfo ⟨_, _, rfl, hb4.grown hg5 hb4.size (fun k hk' => by simp at hk'; omega)⟩
/-- What is refused. -/
def CCut (l : List UInt8) : Prop := l.length < 3 ∨ ∃ x y z r, l = x :: y :: z :: r ∧ UInt8.toNat x * 65536 + UInt8.toNat y * 256 + UInt8.toNat z ≤ 60000 ∧ UInt8.toNat x * 65536 + UInt8.toNat y * 256 + UInt8.toNat z + 3 ≠ l.length
theorem certRead_no (l : List UInt8) (hc : CCut l) (hm : (l.length : Int) ≤ 3000000000) (w : World) (ad0 ad2 : Addr)
    (hg0 : w.cell? ⟨12, 0, none⟩ = some (.iface 210 (.pointer (some ad0)))) (hg2 : w.cell? ⟨13, 0, none⟩ = some (.iface 210 (.pointer (some ad2)))) :
    Calls Tryd.prog 38 #[.string (S l)] w fun e w' => e = .returned (.tuple #[.agg (crMsg 0 none 0 0), .bool false]) ∧ Below w.heap.size w w' := by
  have hwg := block_lt hg0
  have HC : Hid (∀ (g b c : Nat) (w1 : World), Below w.heap.size w w1 → Rd w1 (some ⟨b, 0, none⟩) (vs l) → Calls Tryd.prog 75 #[.pointer (some ⟨g, 0, none⟩), .slice (some ⟨b, 0, none⟩) l.length c] w1 fun e w' =>
      ∃ ad, e = .returned (.iface 210 (.pointer (some ad))) ∧ Below w1.heap.size w1 w') := fun g b c w1 hb hr => by
    rcases hc with h | ⟨x, y, z, r, h, h6, hne⟩
    · exact (cert_no1 g b c l h ad0 w1 (keep_of_below hb _ _ hg0)).mono (fun e w' h => ⟨_, h⟩)
    · exact (cert_no2 g b c l r x y z h _ _ rfl rfl h6 hne ad2 w1 hr (keep_of_below hb _ _ hg2)).mono (fun e w' h => ⟨_, h⟩)
  have HLM : Hid (l.length ≤ maxLen) := Lib.hid (by simp only [maxLen]; omega)
  clear hc hm hg0 hg2 hwg
  go_enter Tryd.func38, Tryd.ntmps38
  go_wp2_with fail
  refine upon_conv_sb 9 54 5 Tryd.underlying9 Tryd.underlying54 Tryd.underlying5 l HLM.out ?_
  intro c w1 hown hb hlt
  have hM := ((Blk.new w 58 _).alloc _).keep hb
  have hr := hown.rd
  have hb1 : Below w.heap.size w w1 := below_two (by (repeat (first | assumption | exact Below.refl _ _ | refine Below.drew ?_ | refine Below.setCell ?_ (by first | omega | (simp; done) | (simp; omega)) _ | refine Below.alloc ?_ (by first | omega | (simp; done) | (simp; omega)) _))) hb
  simp only [World.size_alloc] at hM hr hlt
  clear hown hb
  go_wp2_with fail
  refine (HC.out (w.heap.size + 1) _ c w1 hb1 hr).mono ?_
  rintro e w2 ⟨ad, rfl, hb2⟩
  have hM2 := hM.keep hb2
  have hb4 := below_two hb1 hb2
  clear hr hM hb1 hb2 HC
  go_wp2_with (with_reducible refine Held.store 58 ?_)
  refine held_store_row (cells := crMsg 0 none 0 0) hM2 crInfo rfl rfl rfl (by simp [crMsg, Value.oneCell']) fun w5 hk5 hg5 _ => ?_
  go_wp2_with fail
  exact bodyPost_cell2 rfl rfl rfl hk5 Tryd.underlying58 crInfo ⟨rfl, hb4.grown hg5 hb4.size (fun k hk' => by simp at hk'; omega)⟩
end Go.Proofs.YtkjpkenhpmjikaaDoor
