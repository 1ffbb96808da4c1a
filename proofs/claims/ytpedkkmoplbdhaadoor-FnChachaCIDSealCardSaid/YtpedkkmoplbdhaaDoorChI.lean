/- Walks: a record is sealed: the implementation's door. -/
import Derived.Test.YtpedkkmoplbdhaaDoorChE
namespace Go.Proofs.YtpedkkmoplbdhaaDoor
open Go.RowKit Go.Cv
set_option maxRecDepth 100000
set_option linter.unusedVariables false
theorem zzNewCh (key : List UInt8) (A B : Option Addr) (c d : Nat) (w : World) :
    Calls Tryd.prog 52 #[.iface 101 (.agg #[.string (S key), .int .i64 12, .int .i64 16]), .slice A 12 c, .iface 101 (.agg #[.string (S key), .int .i64 12, .int .i64 16]), .slice B 12 d] w fun e w' => e = .returned (.pointer (some ⟨w.heap.size, 0, none⟩)) ∧ Blk w' w.heap.size 108 (chRow key A B c d) ∧ Below w.heap.size w w' := by
  go_enter Tryd.func52, Tryd.ntmps52
  go_wp2_with fail
  go_ret
  exact ⟨rfl, Blk.new _ _ _, below_alloc _ _⟩
set_option maxHeartbeats 1000000 in
theorem newCh (key iv : List UInt8) (hiv : iv.length = 12) (w : World) :
    Calls Tryd.prog 25 #[.string (S key), .string (S iv)] w fun e w' => ∃ g A B c d, e = .returned (.pointer (some ⟨g, 0, none⟩)) ∧ Blk w' g 108 (chRow key A B c d) ∧ Rd w' A (vs iv) ∧ Below w.heap.size w w' := by
  have HI := Lib.hid hiv
  clear hiv
  go_enter Tryd.func25, Tryd.ntmps25
  go_wp2_with fail
  have hk0 := Blk.new w 101 #[.string (S key), .int .i64 12, .int .i64 16]
  have hb0 := below_alloc w (.cells #[.string (S key), .int .i64 12, .int .i64 16] 101)
  generalize (World.alloc w _) = w0 at *
  have HB0 := Lib.hid hb0
  have HK0 := Lib.hid hk0
  clear hb0 hk0
  refine upon_conv_sb 9 51 5 Tryd.underlying9 Tryd.underlying51 Tryd.underlying5 iv (by rw [HI.out]; simp only [maxLen]; omega) ?_
  intro c1 w1 hO1 hb1 _
  rw [HI.out] at hO1 ⊢
  have HO1 := Lib.hid hO1.rd
  have HB1 := Lib.hid (below_two HB0.out hb1)
  have hk1 := HK0.out.keep hb1
  have k0 := (hk1.cell 0).trans (rfl : _ = some (Value.string (S key)))
  have k1 := (hk1.cell 1).trans (rfl : _ = some (Value.int .i64 12))
  have k2 := (hk1.cell 2).trans (rfl : _ = some (Value.int .i64 16))
  clear hO1 hb1 hk1
  go_wp2_with fail
  refine upon_conv_sb 9 51 5 Tryd.underlying9 Tryd.underlying51 Tryd.underlying5 iv (by rw [HI.out]; simp only [maxLen]; omega) ?_
  intro c2 w2 hO2 hb2 _
  rw [HI.out] at hO2 ⊢
  have HO2 := Lib.hid (HO1.out.keep hb2)
  have HB2 := Lib.hid (below_two HB1.out hb2)
  clear hO2 hb2 k0 k1 k2
  go_wp2_with fail
  refine (zzNewCh key _ _ _ _ w2).mono ?_
  rintro e w3 ⟨rfl, hk3, hb3⟩
  have HK3 := Lib.hid hk3
  have HR3 := Lib.hid (HO2.out.keep hb3)
  have HB3 := Lib.hid (below_two HB2.out hb3)
  clear hk3 hb3
  go_wp2_with fail
  go_ret
  exact ⟨_, _, _, _, _, rfl, HK3.out, HR3.out, HB3.out⟩
theorem behindOk (ep sq cl n ra c b o N cN h : Nat) (hd sl : List UInt8) (hn : n ≤ 255) (hh : 13 + n = h) (hl : hd.length = h) (hN : h + sl.length = N) (hlt : h < N) (hc : N ≤ cN) (w : World) (hr : Rd w (some ⟨b, o, none⟩) (vs (hd ++ sl))) :
    Calls Tryd.prog 27 #[.agg (hwRow 25 254 253 ep sq cl (some ⟨ra, 0, none⟩) n c), .slice (some ⟨b, o, none⟩) N cN, .nilIface] w fun e w' => e = .returned (.tuple #[.string (S sl), .bool true]) ∧ Below w.heap.size w w' := by
  have h6 : (w.alloc (.cells (hwRow 25 254 253 ep sq cl (some ⟨ra, 0, none⟩) n c) 53)).cell? ⟨w.heap.size, 6, none⟩ = some (.slice (some ⟨ra, 0, none⟩) n c) := ((Blk.new w _ _).cell 6).trans rfl
  have HS := Lib.hid (hdrSize w.heap.size n c ra (w.alloc (.cells (hwRow 25 254 253 ep sq cl (some ⟨ra, 0, none⟩) n c) 53)) h6 hn)
  rw [hh] at HS
  have hx := Rd.drop' (xs := vs hd) (ys := vs sl) (by rw [← vs_append]; exact hr)
  rw [vs_length, hl] at hx
  have HX := Lib.hid (hx.keep (below_alloc w (.cells (hwRow 25 254 253 ep sq cl (some ⟨ra, 0, none⟩) n c) 53)))
  have HB := Lib.hid (below_alloc w (.cells (hwRow 25 254 253 ep sq cl (some ⟨ra, 0, none⟩) n c) 53))
  have HL : Hid (sl.length = N - h) := Lib.hid (by omega)
  have i1 : (h : Int) ≤ N := by omega
  have i2 : ¬ cN = h := by omega
  have i3 : ¬ (N : Int) < h := by omega
  have i4 : (N : Int) ≤ cN := by omega
  clear hn hh hl hN hlt hc hr hx h6
  generalize hcs : hwRow 25 254 253 ep sq cl (some ⟨ra, 0, none⟩) n c = cs at *
  clear hcs
  go_enter Tryd.func27, Tryd.ntmps27
  go_wp2_with fail
  refine HS.out.mono ?_
  rintro e w1 ⟨rfl, rfl⟩
  go_wp2_with fail
  refine upon_conv_bs 51 9 5 Tryd.underlying51 Tryd.underlying5 Tryd.underlying9 sl _ _ _ HL.out HX.out ?_
  go_wp2_with fail
  first | go_ret2 | go_ret
  first | exact ⟨rfl, HB.out⟩ | exact ⟨⟨rfl, rfl⟩, HB.out⟩ | exact HB.out
end Go.Proofs.YtpedkkmoplbdhaaDoor
