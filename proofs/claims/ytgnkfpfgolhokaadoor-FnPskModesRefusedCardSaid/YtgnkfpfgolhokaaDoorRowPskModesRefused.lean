/- FnPskModesRefused: for every list of modes the law returns true; no condition. -/
import Derived.Test.YtgnkfpfgolhokaaDoorRows
import Derived.Test.YtgnkfpfgolhokaaDoorCards
import Derived.Test.YtgnkfpfgolhokaaDoorTie
import Derived.SevenTiedAt
import Derived.Test.YtgnkfpfgolhokaaDoorRow
import Derived.Test.YtgnkfpfgolhokaaDoorPmwLaw
namespace Go.Proofs.YtgnkfpfgolhokaaDoor.fnPskModesRefused
open Go.ChangeShapes Go.WideShapes Go.ChangeAt Go.RowKit Go.Cv
open Go.ChangeMaps (open_string shut_string)
set_option linter.unusedVariables false

theorem own : ownKnob Tryd.prog.godebug = none := by kernel_rfl
theorem laidOut : laidOutB Tryd.prog = true := by kernel_rfl
def laidL : List (String × DataW Unit) := [("pub-convoy/pub/dtls/pkg/protocol/extension.errBufferTooSmall", Rows.laid_pub_convoy_pub_dtls_pkg_protocol_extension_errBufferTooSmall), ("pub-convoy/pub/dtls/pkg/protocol/extension.errInvalidExtensionType", Rows.laid_pub_convoy_pub_dtls_pkg_protocol_extension_errInvalidExtensionType), ("pub-convoy/pub/dtls/pkg/protocol/extension.errLengthMismatch", Rows.laid_pub_convoy_pub_dtls_pkg_protocol_extension_errLengthMismatch), ("pub-convoy/pub/dtls/pkg/protocol/extension.errPskKeyExchangeModesFormat", Rows.laid_pub_convoy_pub_dtls_pkg_protocol_extension_errPskKeyExchangeModesFormat), ("pub-convoy/pub/dtls/pkg/protocol/extension.errNoPskKeyExchangeMode", Rows.laid_pub_convoy_pub_dtls_pkg_protocol_extension_errNoPskKeyExchangeMode)]
theorem g0 : Tryd.prog.globalNamed "pub-convoy/pub/dtls/pkg/protocol/extension.errBufferTooSmall" = some 8 := by kernel_rfl
theorem gt0 : (Tryd.prog.globals[8]?).map (·.type) = some 55 := by kernel_rfl
theorem g1 : Tryd.prog.globalNamed "pub-convoy/pub/dtls/pkg/protocol/extension.errInvalidExtensionType" = some 7 := by kernel_rfl
theorem gt1 : (Tryd.prog.globals[7]?).map (·.type) = some 55 := by kernel_rfl
theorem g2 : Tryd.prog.globalNamed "pub-convoy/pub/dtls/pkg/protocol/extension.errLengthMismatch" = some 10 := by kernel_rfl
theorem gt2 : (Tryd.prog.globals[10]?).map (·.type) = some 55 := by kernel_rfl
theorem g3 : Tryd.prog.globalNamed "pub-convoy/pub/dtls/pkg/protocol/extension.errPskKeyExchangeModesFormat" = some 9 := by kernel_rfl
theorem gt3 : (Tryd.prog.globals[9]?).map (·.type) = some 55 := by kernel_rfl
theorem g4 : Tryd.prog.globalNamed "pub-convoy/pub/dtls/pkg/protocol/extension.errNoPskKeyExchangeMode" = some 6 := by kernel_rfl
theorem gt4 : (Tryd.prog.globals[6]?).map (·.type) = some 55 := by kernel_rfl
theorem star : "*" ++ "errors.errorString" = "*errors.errorString" := by decide
theorem rowE (u : TypeId) (h : Tryd.prog.typeName? 3 u = some "*errors.errorString") : u = 135 :=
  typeName_ptr_named (nm := "errors.errorString") (by rw [star]; kernel_rfl) (by kernel_rfl) (by decide) u (by rw [star]; exact h)
theorem cE : Tryd.prog.cellsOf 137 = 1 := by kernel_rfl
theorem cS : Tryd.prog.cellsOf 9 = 1 := by kernel_rfl
theorem door_met (os : Os) (args : Array Value) : laidMetH Tryd.prog laidL ((World.doorLaid Tryd.prog 4000 os).forCall (fun _ _ => 0) ⟨#[], args, []⟩).memory :=
  laidMetH_of_parts3 (fuel := 8) (laidMet_of_run' 8 (by kernel_rfl) (by kernel_rfl)) (by kernel_rfl) (by kernel_rfl)

set_option maxRecDepth 100000 in
theorem lifted (os : Os) (started : os.Started) (H : Type) (enc : TypeId × Value → H) :
    ReturnsInHanded {} Tryd.checked os 7 .any (fun w args => (Rows.fnPskModesRefusedSpec.pre enc Tryd.prog Tryd.f7 [] false w args ∧ laidMetH Tryd.prog laidL w) ∧ sizedMet enc Tryd.prog Tryd.f7 (OpenSpec.ofChange Rows.fnPskModesRefusedSpec) false w args)
      (Rows.fnPskModesRefusedSpec.post enc Tryd.prog Tryd.f7 false true false false) := by
  refine returnsInHanded_of_change_and (C := Tryd.checked) (X := fun w _ => laidMetH Tryd.prog laidL w) (fun _ _ _ hh h => h.of_heap hh) own started (by kernel_rfl) Tryd.func7
    (ChangeSpec.witness_shaped (enc := enc) (C := Tryd.checked) (os := os) (X := fun w _ => laidMetH Tryd.prog laidL w) false (World.doorLaid Tryd.prog 4000 os) #[.slice none 0 0] 8 rfl (World.shaped_of_RefB (by kernel_rfl) (by kernel_rfl)) (by kernel_rfl) (by kernel_rfl) (by kernel_rfl) (door_met os _)) ?_
  intro W base args ds gs before hval0 hW _ hsz0 hL _
  have hval : ∀ (j : Nat) t v, Tryd.f7.params[j]? = some t → args[j]? = some v → Value.okWide Tryd.prog W .any base t v := hval0
  have hW' := hW
  obtain ⟨p, q, hA0, hV, rfl, hfz, hnd⟩ := hW
  have hA : DataW.TrodAll enc Tryd.prog W 0 (fun _ => true) true Tryd.f7.params.toList args.toList ds p := hA0
  rw [Tryd.params7] at hA hval
  obtain ⟨v0, vs0, d0, ds0, p0, q0, hargs0, rfl, rfl, h0, r0⟩ := trodAll_cons hA
  obtain ⟨rfl, rfl, rfl⟩ := trodAll_nil r0
  obtain rfl : args = #[v0] := by cases args; simp_all
  obtain ⟨A0, n0, c0, rfl⟩ := okWide_slice Tryd.underlying27 (hval 0 27 v0 rfl rfl)
  obtain ⟨z0, hz0, hn0, hr0, hw0⟩ := rd_ints Tryd.underlying27 Tryd.underlying24 (by kernel_rfl) h0
  clear hA0 hval0
  rw [MakeChecks.laidMetH_plain _ _ _ (by kernel_rfl)] at hL
  obtain ⟨ad0, hg0⟩ := sentinel_cell (text := [98, 117, 102, 102, 101, 114, 32, 105, 115, 32, 116, 111, 111, 32, 115, 109, 97, 108, 108]) hL (List.Mem.head _) g0 gt0 Tryd.underlying55 rowE Tryd.underlying135 Tryd.underlying137 rfl rfl Tryd.underlying9 cE cS
  obtain ⟨ad1, hg1⟩ := sentinel_cell (text := [105, 110, 118, 97, 108, 105, 100, 32, 101, 120, 116, 101, 110, 115, 105, 111, 110, 32, 116, 121, 112, 101]) hL (List.Mem.tail _ (List.Mem.head _)) g1 gt1 Tryd.underlying55 rowE Tryd.underlying135 Tryd.underlying137 rfl rfl Tryd.underlying9 cE cS
  obtain ⟨ad2, hg2⟩ := sentinel_cell (text := [100, 97, 116, 97, 32, 108, 101, 110, 103, 116, 104, 32, 97, 110, 100, 32, 100, 101, 99, 108, 97, 114, 101, 100, 32, 108, 101, 110, 103, 116, 104, 32, 100, 111, 32, 110, 111, 116, 32, 109, 97, 116, 99, 104]) hL (List.Mem.tail _ (List.Mem.tail _ (List.Mem.head _))) g2 gt2 Tryd.underlying55 rowE Tryd.underlying135 Tryd.underlying137 rfl rfl Tryd.underlying9 cE cS
  obtain ⟨ad3, hg3⟩ := sentinel_cell (text := [105, 110, 118, 97, 108, 105, 100, 32, 80, 114, 101, 45, 83, 104, 97, 114, 101, 100, 32, 75, 101, 121, 32, 69, 120, 99, 104, 97, 110, 103, 101, 32, 77, 111, 100, 101, 115, 32, 101, 120, 116, 101, 110, 115, 105, 111, 110, 32, 102, 111, 114, 109, 97, 116]) hL (List.Mem.tail _ (List.Mem.tail _ (List.Mem.tail _ (List.Mem.head _)))) g3 gt3 Tryd.underlying55 rowE Tryd.underlying135 Tryd.underlying137 rfl rfl Tryd.underlying9 cE cS
  obtain ⟨ad4, hg4⟩ := sentinel_cell (text := [110, 111, 32, 109, 111, 100, 101, 32, 115, 101, 116, 32, 102, 111, 114, 32, 116, 104, 101, 32, 80, 114, 101, 45, 83, 104, 97, 114, 101, 100, 32, 75, 101, 121, 32, 69, 120, 99, 104, 97, 110, 103, 101, 32, 77, 111, 100, 101, 115, 32, 101, 120, 116, 101, 110, 115, 105, 111, 110]) hL (List.Mem.tail _ (List.Mem.tail _ (List.Mem.tail _ (List.Mem.tail _ (List.Mem.head _))))) g4 gt4 Tryd.underlying55 rowE Tryd.underlying135 Tryd.underlying137 rfl rfl Tryd.underlying9 cE cS
  refine (pmr_row A0 n0 c0 z0 hz0 hn0 W hr0 hw0 ad0 hg0 ad1 hg1 ad2 hg2 ad3 hg3 ad4 hg4).mono fun e W' ⟨he, hb⟩ => ?_
  subst he
  exact ⟨_, rfl, post_below laidOut hW' rfl (by kernel_rfl) rfl Tryd.underlying4 rfl hb⟩

theorem over : Rows.FnPskModesRefusedSaid :=
  OpenClaim.holds_of_wide 7 Tryd.f7 rfl rfl rfl rfl rfl rfl rfl ⟨rfl, rfl, rfl, rfl, rfl⟩ rfl rfl rfl rfl rfl (by kernel_rfl) Tryd.func7 (by kernel_rfl)
    (of_decide_eq_true (by kernel_rfl)) (by unfold Func.isWrapper; first | (rw [if_pos (by decide +kernel)]; kernel_rfl) | (rw [if_neg (by decide +kernel)]; exact ⟨rfl, rfl⟩))
    (fun os started H enc _ => lifted os started H enc)
theorem proved : Rows.FnPskModesRefusedCardSaid :=
  Claim7.holds_tied_plain_at .later [] [.sentinel, .sentinel, .sentinel, .sentinel, .sentinel] true (true, "a7963ffd63c26f0124690212f6a7e3c953b3a31d7c4f98c926b85d1f9d7ec06d") true
    over (fun _ h => by cases h) (by kernel_rfl) (fun _ h => by cases h) fnPskModesRefused_row_tie rfl ⟨rfl, rfl⟩ (by kernel_rfl) rfl
    (fun f fn hf hfn => by
      obtain rfl : f = 7 := Option.some.inj ((show Tryd.prog.funcNamed "pub-convoy/laws.FnPskModesRefused" = some 7 by kernel_rfl).symm.trans hf) |>.symm
      obtain rfl : fn = Tryd.f7 := (Option.some.inj (Tryd.func7.symm.trans hfn)).symm
      exact ⟨by kernel_rfl, fun j t ht => by
        rw [Tryd.params7] at ht
        have hm : t ∈ [27] := by simpa using Array.mem_of_getElem? ht
        have hall : ([27].all fun u => !Tryd.prog.wantsStandIn u) = true := by kernel_rfl
        exact (show Tryd.prog.wantsStandIn t = false by simpa using List.all_eq_true.1 hall t hm)⟩)
    (by kernel_rfl)
#print axioms proved
end Go.Proofs.YtgnkfpfgolhokaaDoor.fnPskModesRefused
