/- Walks: what comes behind a record's header. -/
import Derived.Test.YtpedkkmoplbdhaaDoorChE
namespace Go.Proofs.YtpedkkmoplbdhaaDoor
open Go.RowKit Go.Cv
set_option maxRecDepth 100000
set_option linter.unusedVariables false
theorem behindNo (cs : Array Value) (A : Option Addr) (n c : Nat) (t : TypeId) (v : Value) (w : World) :
    Calls Tryd.prog 27 #[.agg cs, .slice A n c, .iface t v] w fun e w' => e = .returned (.tuple #[.string (S []), .bool false]) ∧ Below w.heap.size w w' := by
  go_enter Tryd.func27, Tryd.ntmps27
  go_wp2_with fail
  first | go_ret2 | go_ret
  first | exact ⟨rfl, below_alloc _ _⟩ | exact ⟨⟨rfl, rfl⟩, below_alloc _ _⟩ | exact below_alloc _ _
theorem behindAll (ct : UInt8) (ep sq cl n ra c b o N cN h : Nat) (hd sl : List UInt8) (hn : n ≤ 255) (hh : 13 + n = h) (hl : hd.length = h) (hN : h + sl.length = N) (hlt : h < cN) (hc : N ≤ cN) (w : World) (hr : Rd w (some ⟨b, o, none⟩) (vs (hd ++ sl))) :
    Calls Tryd.prog 27 #[.agg (hwRow ct 254 253 ep sq cl (some ⟨ra, 0, none⟩) n c), .slice (some ⟨b, o, none⟩) N cN, .nilIface] w fun e w' => e = .returned (.tuple #[.string (S sl), .bool true]) ∧ Below w.heap.size w w' := by
  have h6 : (w.alloc (.cells (hwRow ct 254 253 ep sq cl (some ⟨ra, 0, none⟩) n c) 53)).cell? ⟨w.heap.size, 6, none⟩ = some (.slice (some ⟨ra, 0, none⟩) n c) := ((Blk.new w _ _).cell 6).trans rfl
  have HS := Lib.hid (hdrSize w.heap.size n c ra (w.alloc (.cells (hwRow ct 254 253 ep sq cl (some ⟨ra, 0, none⟩) n c) 53)) h6 hn)
  rw [hh] at HS
  have hx := Rd.drop' (xs := vs hd) (ys := vs sl) (by rw [← vs_append]; exact hr)
  rw [vs_length, hl] at hx
  have HX := Lib.hid (hx.keep (below_alloc w (.cells (hwRow ct 254 253 ep sq cl (some ⟨ra, 0, none⟩) n c) 53)))
  have HB := Lib.hid (below_alloc w (.cells (hwRow ct 254 253 ep sq cl (some ⟨ra, 0, none⟩) n c) 53))
  have HL : Hid (sl.length = N - h) := Lib.hid (by omega)
  have i1 : (h : Int) ≤ N := by omega
  have i2 : ¬ cN = h := by omega
  have i3 : ¬ (N : Int) < h := by omega
  have i4 : (N : Int) ≤ cN := by omega
  clear hn hh hl hN hlt hc hr hx h6
  generalize hcs : hwRow ct 254 253 ep sq cl (some ⟨ra, 0, none⟩) n c = cs at *
  clear hcs
  go_enter Tryd.func27, Tryd.ntmps27
  go_wp2_with fail
  refine HS.out.mono ?_
  rintro e w1 ⟨rfl, rfl⟩
  go_wp2_with fail
  refine upon_conv_bs 51 9 5 Tryd.underlying51 Tryd.underlying5 Tryd.underlying9 sl _ _ _ HL.out HX.out ?_
  go_wp2_with fail
  first | go_ret2 | go_ret
  first | exact ⟨rfl, HB.out⟩ | exact ⟨⟨rfl, rfl⟩, HB.out⟩ | exact HB.out
theorem behindAny (ct : UInt8) (ep sq cl n ra c b o N cN h : Nat) (hd sl : List UInt8) (hn : n ≤ 255) (hh : 13 + n = h) (hl : hd.length = h) (hN : h + sl.length = N) (hlt : h < N) (hc : N ≤ cN) (w : World) (hr : Rd w (some ⟨b, o, none⟩) (vs (hd ++ sl))) :
    Calls Tryd.prog 27 #[.agg (hwRow ct 254 253 ep sq cl (some ⟨ra, 0, none⟩) n c), .slice (some ⟨b, o, none⟩) N cN, .nilIface] w fun e w' => e = .returned (.tuple #[.string (S sl), .bool true]) ∧ Below w.heap.size w w' :=
  behindAll ct ep sq cl n ra c b o N cN h hd sl hn hh hl hN (Nat.lt_of_lt_of_le hlt hc) hc w hr
end Go.Proofs.YtpedkkmoplbdhaaDoor
