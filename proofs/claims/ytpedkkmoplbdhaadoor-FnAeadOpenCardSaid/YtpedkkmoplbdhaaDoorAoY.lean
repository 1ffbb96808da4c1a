/- Walks: a record without a connection ID, sealed in the specification. -/
import Derived.Test.YtpedkkmoplbdhaaDoorAoX
import Derived.Test.YtpedkkmoplbdhaaDoorAoS
namespace Go.Proofs.YtpedkkmoplbdhaaDoor
open Go.RowKit Go.Cv
set_option maxRecDepth 100000
set_option linter.unusedVariables false
theorem sExtraN (cid : List UInt8) (ct maj mn ep sq cl m : Nat) (hn : ((ct : Int) == 25) = false) (hn' : ¬ ct = 25) (hct : (ct : Int) < 256) (hmaj : (maj : Int) < 256) (hmn : (mn : Int) < 256) (hep : (ep : Int) < 65536) (hm : (m : Int) < 65536) (w : World) :
    Calls Tryd.prog 30 #[.agg (recRow ct maj mn ep sq cl cid), .int .i64 m] w fun e w' => e = .returned (.string (S (addS ct maj mn ep sq m))) ∧ Below w.heap.size w w' := by
  have H1 := Lib.hid (fun W => sAdd ct maj mn ep sq cl cid m hct hmaj hmn hep hm W)
  have hc0 : (w.alloc (.cells (recRow ct maj mn ep sq cl cid) 25)).cell? ⟨w.heap.size, 0, none⟩ = some (.int .u8 (ct : Int)) := ((Blk.new w _ _).cell 0).trans rfl
  generalize hcs : recRow ct maj mn ep sq cl cid = cs at H1 hc0 ⊢
  have hi : (Tryd.prog.info? 25).map (·.size) = some cs.size := by rw [← hcs]; exact recInfo
  have ht : decide ((ct : Int) = 25) = false := decide_eq_false (by omega)
  clear hcs hct hmaj hmn hep hm
  go_enter Tryd.func30, Tryd.ntmps30
  have hg := Blk.new w 25 cs
  have hb0 := below_alloc w (.cells cs 25)
  go_wp2_with (with_reducible refine Held.load 25 ?_)
  refine held_load_row hg Tryd.underlying25 hi rfl ?_
  generalize (World.alloc w _) = w0 at *
  go_wp2_with fail
  refine (H1.out w0).mono ?_
  rintro e w1 ⟨rfl, hb1⟩
  go_wp2_with fail
  go_ret
  exact ⟨rfl, below_two hb0 hb1⟩
end Go.Proofs.YtpedkkmoplbdhaaDoor
