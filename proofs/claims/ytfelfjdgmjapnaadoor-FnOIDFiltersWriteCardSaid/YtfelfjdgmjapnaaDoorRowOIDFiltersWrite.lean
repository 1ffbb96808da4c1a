/- FnOIDFiltersWrite: OID filters are written as the standard lays them out; no condition. -/
import Derived.Test.YtfelfjdgmjapnaaDoorRows
import Derived.Test.YtfelfjdgmjapnaaDoorCards
import Derived.Test.YtfelfjdgmjapnaaDoorTie
import Derived.SevenTiedAt
import Derived.Test.YtfelfjdgmjapnaaDoorRow
import Derived.Test.YtfelfjdgmjapnaaDoorFilLaw
namespace Go.Proofs.YtfelfjdgmjapnaaDoor.fnOIDFiltersWrite
open Go.ChangeShapes Go.WideShapes Go.ChangeAt Go.RowKit Go.Cv
open Go.ChangeMaps (open_string shut_string)
set_option linter.unusedVariables false

theorem own : ownKnob Tryd.prog.godebug = none := by kernel_rfl
theorem laidOut : laidOutB Tryd.prog = true := by kernel_rfl
def laidL : List (String × DataW Unit) := [("pub-convoy/pub/dtls/pkg/protocol/extension.errEmptyOIDFilter", Rows.laid_pub_convoy_pub_dtls_pkg_protocol_extension_errEmptyOIDFilter), ("pub-convoy/pub/dtls/pkg/protocol/extension.errDuplicateOID", Rows.laid_pub_convoy_pub_dtls_pkg_protocol_extension_errDuplicateOID)]
theorem g0 : Tryd.prog.globalNamed "pub-convoy/pub/dtls/pkg/protocol/extension.errEmptyOIDFilter" = some 7 := by kernel_rfl
theorem gt0 : (Tryd.prog.globals[7]?).map (·.type) = some 59 := by kernel_rfl
theorem g1 : Tryd.prog.globalNamed "pub-convoy/pub/dtls/pkg/protocol/extension.errDuplicateOID" = some 8 := by kernel_rfl
theorem gt1 : (Tryd.prog.globals[8]?).map (·.type) = some 59 := by kernel_rfl
theorem star : "*" ++ "errors.errorString" = "*errors.errorString" := by decide
theorem rowE (u : TypeId) (h : Tryd.prog.typeName? 3 u = some "*errors.errorString") : u = 141 :=
  typeName_ptr_named (nm := "errors.errorString") (by rw [star]; kernel_rfl) (by kernel_rfl) (by decide) u (by rw [star]; exact h)
theorem cE : Tryd.prog.cellsOf 143 = 1 := by kernel_rfl
theorem cS : Tryd.prog.cellsOf 9 = 1 := by kernel_rfl
theorem door_met (os : Os) (args : Array Value) : laidMetH Tryd.prog laidL ((World.doorLaid Tryd.prog 4000 os).forCall (fun _ _ => 0) ⟨#[], args, []⟩).memory :=
  laidMetH_of_parts3 (fuel := 8) (laidMet_of_run' 8 (by kernel_rfl) (by kernel_rfl)) (by kernel_rfl) (by kernel_rfl)

set_option maxRecDepth 100000 in
theorem lifted (os : Os) (started : os.Started) (H : Type) (enc : TypeId × Value → H) :
    ReturnsInHanded {} Tryd.checked os 4 .any (fun w args => (Rows.fnOIDFiltersWriteSpec.pre enc Tryd.prog Tryd.f4 [] false w args ∧ laidMetH Tryd.prog laidL w) ∧ sizedMet enc Tryd.prog Tryd.f4 (OpenSpec.ofChange Rows.fnOIDFiltersWriteSpec) false w args)
      (Rows.fnOIDFiltersWriteSpec.post enc Tryd.prog Tryd.f4 false true false false) := by
  refine returnsInHanded_of_change_and (C := Tryd.checked) (X := fun w _ => laidMetH Tryd.prog laidL w) (fun _ _ _ hh h => h.of_heap hh) own started (by kernel_rfl) Tryd.func4
    (ChangeSpec.witness_shaped (enc := enc) (C := Tryd.checked) (os := os) (X := fun w _ => laidMetH Tryd.prog laidL w) false (World.doorLaid Tryd.prog 4000 os) #[.slice none 0 0] 8 rfl (World.shaped_of_RefB (by kernel_rfl) (by kernel_rfl)) (by kernel_rfl) (by kernel_rfl) (by kernel_rfl) (door_met os _)) ?_
  intro W base args ds gs before hval0 hW _ hsz0 hL _
  have hval : ∀ (j : Nat) t v, Tryd.f4.params[j]? = some t → args[j]? = some v → Value.okWide Tryd.prog W .any base t v := hval0
  have hW' := hW
  obtain ⟨p, q, hA0, hV, rfl, hfz, hnd⟩ := hW
  have hA : DataW.TrodAll enc Tryd.prog W 0 (fun _ => true) true Tryd.f4.params.toList args.toList ds p := hA0
  rw [Tryd.params4] at hA hval
  obtain ⟨v0, vs0, d0, ds0, p0, q0, hargs0, rfl, rfl, h0, r0⟩ := trodAll_cons hA
  obtain ⟨rfl, rfl, rfl⟩ := trodAll_nil r0
  obtain rfl : args = #[v0] := by cases args; simp_all
  obtain ⟨A0, n0, c0, rfl⟩ := okWide_slice Tryd.underlying40 (hval 0 40 v0 rfl rfl)
  obtain ⟨z0, hz0, hn0, hr0⟩ := rd_filters Tryd.underlying40 Tryd.underlying79 (by kernel_rfl) rfl rfl (by kernel_rfl) (by kernel_rfl) Tryd.underlying9 Tryd.underlying9 h0
  clear hA0 hval0
  rw [MakeChecks.laidMetH_plain _ _ _ (by kernel_rfl)] at hL
  obtain ⟨ad0, hg0⟩ := sentinel_cell (text := [110, 111, 32, 111, 105, 100, 32, 115, 101, 116, 32, 102, 111, 114, 32, 97, 32, 79, 73, 68, 32, 102, 105, 108, 116, 101, 114]) hL (List.Mem.head _) g0 gt0 Tryd.underlying59 rowE Tryd.underlying141 Tryd.underlying143 rfl rfl Tryd.underlying9 cE cS
  obtain ⟨ad1, hg1⟩ := sentinel_cell (text := [100, 117, 112, 108, 105, 99, 97, 116, 101, 32, 79, 73, 68, 32, 102, 105, 108, 116, 101, 114, 115]) hL (List.Mem.tail _ (List.Mem.head _)) g1 gt1 Tryd.underlying59 rowE Tryd.underlying141 Tryd.underlying143 rfl rfl Tryd.underlying9 cE cS
  refine (fll_row A0 n0 c0 z0 hz0 hn0 W hr0 ad0 hg0 ad1 hg1).mono fun e W' ⟨he, hb⟩ => ?_
  subst he
  exact ⟨_, rfl, post_below laidOut hW' rfl (by kernel_rfl) rfl Tryd.underlying4 rfl hb⟩

theorem over : Rows.FnOIDFiltersWriteSaid :=
  OpenClaim.holds_of_wide 4 Tryd.f4 rfl rfl rfl rfl rfl rfl rfl ⟨rfl, rfl, rfl, rfl, rfl⟩ rfl rfl rfl rfl rfl (by kernel_rfl) Tryd.func4 (by kernel_rfl)
    (of_decide_eq_true (by kernel_rfl)) (by unfold Func.isWrapper; first | (rw [if_pos (by decide +kernel)]; kernel_rfl) | (rw [if_neg (by decide +kernel)]; exact ⟨rfl, rfl⟩))
    (fun os started H enc _ => lifted os started H enc)
theorem proved : Rows.FnOIDFiltersWriteCardSaid :=
  Claim7.holds_tied_plain_at .later [] [.sentinel, .sentinel] true (true, "ba45e9a8590ab89b23e56fc5a1649ac5c253f49d383fd3e9271923a4f0e501ec") true
    over (fun _ h => by cases h) (by kernel_rfl) (fun _ h => by cases h) fnOIDFiltersWrite_row_tie rfl ⟨rfl, rfl⟩ (by kernel_rfl) rfl
    (fun f fn hf hfn => by
      obtain rfl : f = 4 := Option.some.inj ((show Tryd.prog.funcNamed "pub-convoy/laws.FnOIDFiltersWrite" = some 4 by kernel_rfl).symm.trans hf) |>.symm
      obtain rfl : fn = Tryd.f4 := (Option.some.inj (Tryd.func4.symm.trans hfn)).symm
      exact ⟨by kernel_rfl, fun j t ht => by
        rw [Tryd.params4] at ht
        have hm : t ∈ [40] := by simpa using Array.mem_of_getElem? ht
        have hall : ([40].all fun u => !Tryd.prog.wantsStandIn u) = true := by kernel_rfl
        exact (show Tryd.prog.wantsStandIn t = false by simpa using List.all_eq_true.1 hall t hm)⟩)
    (by kernel_rfl)
#print axioms proved
end Go.Proofs.YtfelfjdgmjapnaaDoor.fnOIDFiltersWrite
