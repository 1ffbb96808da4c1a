/- Walks: the additional data of a record with a connection ID: the calls about it. -/
import Derived.Test.YtkcacppcendhmaaAcidImpl
namespace Go.Proofs.Ytkcacppcendhmaa
open Go.RowKit Go.Cv
set_option maxRecDepth 100000
set_option linter.unusedVariables false
theorem zzGen_any (g : Nat) (ct maj mn ep sq cl : Nat) (cid : List UInt8) (A : Option Addr) (c : Nat) (m : Nat) (hn : cid.length ≤ 255) (hmaj : (maj : Int) < 256) (hmn : (mn : Int) < 256) (hep : (ep : Int) < 65536) (hm : (m : Int) < 65536)
    (w : World) (hg : Blk w g 38 (hdRow ct maj mn ep sq cl A cid.length c)) (hr : Rd w A (vs cid)) :
    Calls Try.prog 13 #[.pointer (some ⟨g, 0, none⟩), .int .i64 m] w fun e w' => ∃ A' n' c', e = .returned (.slice A' n' c') ∧ (acid maj mn ep sq cid m).length = n' ∧ Rd w' A' (vs (acid maj mn ep sq cid m)) ∧ Below w.heap.size w w' := by
  have HC := Lib.hid (gen_any g ct maj mn ep sq cl cid A c m hn hmaj hmn hep hm w hg hr)
  clear hn hmaj hmn hep hm hg hr
  go_enter Try.func13, Try.ntmps13
  go_wp2_with fail
  refine HC.out.mono ?_
  rintro e w2 ⟨A', n', c', rfl, hn', hr', b2⟩
  go_wp2_with fail
  go_ret
  exact ⟨_, _, _, rfl, hn', hr', b2⟩
theorem acidImpl_any (ct maj mn ep sq cl : Nat) (cid : List UInt8) (m : Nat) (hn : cid.length ≤ 255) (hmaj : (maj : Int) < 256) (hmn : (mn : Int) < 256) (hep : (ep : Int) < 65536) (hm : (m : Int) < 65536) (w : World) :
    Calls Try.prog 8 #[.agg (recRow ct maj mn ep sq cl cid), .int .i64 m] w fun e w' => e = .returned (.string (S (acid maj mn ep sq cid m))) ∧ Below w.heap.size w w' := by
  have HN : Hid (cid.length ≤ 255 ∧ (maj : Int) < 256 ∧ (mn : Int) < 256 ∧ (ep : Int) < 65536 ∧ (m : Int) < 65536) := ⟨hn, hmaj, hmn, hep, hm⟩
  clear hn hmaj hmn hep hm
  generalize hcs : recRow ct maj mn ep sq cl cid = cs
  have hi : (Try.prog.info? 27).map (·.size) = some cs.size := by rw [← hcs]; exact recInfo
  have HCS : Hid (recRow ct maj mn ep sq cl cid = cs) := hcs
  clear hcs
  go_enter Try.func8, Try.ntmps8
  have hg := heap_alloc_new w (.cells cs 27)
  go_wp2_with (with_reducible refine wpList_load_row rfl 27 (.tmp 2) rfl w.heap.size (by with_unfolding_all rfl) 27 cs (0, 0) _ hg Try.underlying27 (by with_unfolding_all rfl) hi ?_)
  clear hi hg
  have hc := HCS.out
  subst hc
  clear HCS
  go_wp2_with fail
  refine (header_any ct maj mn ep sq cl cid HN.out.1 _).mono ?_
  rintro e w1 ⟨A, c, rfl, hr, hb1⟩
  have HR := Lib.hid hr
  have HB : Hid (Below w.heap.size w w1) := below_two (below_alloc _ _) hb1
  clear hr hb1
  go_wp2_with (with_reducible refine Held.store 38 ?_)
  refine held_store_new (cells := hdRow ct maj mn ep sq cl A cid.length c) hdInfo rfl rfl rfl (by simp [hdRow, Value.oneCell']) fun w2 hk hb2 _ => ?_
  have HK := Lib.hid hk
  have HB2 := Lib.hid hb2
  clear hk hb2
  go_wp2_with fail
  refine (zzGen_any _ ct maj mn ep sq cl cid A c m HN.out.1 HN.out.2.1 HN.out.2.2.1 HN.out.2.2.2.1 HN.out.2.2.2.2 w2 HK.out (HR.out.keep HB2.out)).mono ?_
  rintro e w3 ⟨A', n', c', rfl, hn', hr', b3⟩
  go_wp2_with fail
  refine upon_conv_bs 31 9 5 Try.underlying31 Try.underlying5 Try.underlying9 _ A' n' c' hn' hr' ?_
  go_wp2_with fail
  go_ret
  exact ⟨rfl, below_two (below_two HB.out HB2.out) b3⟩
theorem fits_any (ct maj mn ep sq cl : Nat) (cid : List UInt8) (w : World) (h : decide ((2147483647 : Int) < cid.length) = false) :
    Calls Try.prog 7 #[.agg (recRow ct maj mn ep sq cl cid)] w fun e w' => e = .returned (.bool true) ∧ Below w.heap.size w w' := by
  have h3 : (S cid).size = cid.length := S_size cid
  unfold recRow
  go_enter Try.func7, Try.ntmps7
  go_wp2_with fail
  go_ret
  exact ⟨rfl, below_alloc _ _⟩
theorem nofits_any (ct maj mn ep sq cl : Nat) (cid : List UInt8) (w : World) (h : decide ((2147483647 : Int) < cid.length) = true) :
    Calls Try.prog 7 #[.agg (recRow ct maj mn ep sq cl cid)] w fun e w' => e = .returned (.bool false) ∧ Below w.heap.size w w' := by
  have h3 : (S cid).size = cid.length := S_size cid
  unfold recRow
  go_enter Try.func7, Try.ntmps7
  go_wp2_with fail
  go_ret
  exact ⟨rfl, below_alloc _ _⟩
end Go.Proofs.Ytkcacppcendhmaa
