/- A client's key exchange with an identity alone, laid out as the standard says, is read as what it is, for every identity under the row's guards. -/
import Derived.Test.YtnjomlcenolkdaaDoorRows
import Derived.Test.YtnjomlcenolkdaaDoorCards
import Derived.Test.YtnjomlcenolkdaaDoorTie
import Derived.SevenTiedAt
import Derived.Test.YtnjomlcenolkdaaDoorRow
import Derived.Test.YtnjomlcenolkdaaDoorClientKeyPLaw
namespace Go.Proofs.YtnjomlcenolkdaaDoor.fnClientKeyPskBack
open Go.ChangeShapes Go.WideShapes Go.ChangeAt Go.RowKit Go.Cv
open Go.ChangeMaps (open_string shut_string)
set_option linter.unusedVariables false

theorem own : ownKnob Tryd.prog.godebug = none := by kernel_rfl
theorem laidOut : laidOutB Tryd.prog = true := by kernel_rfl
def laidL : List (String × DataW Unit) := [("pub-convoy/pub/dtls/pkg/protocol/handshake.errBufferTooSmall", Rows.laid_pub_convoy_pub_dtls_pkg_protocol_handshake_errBufferTooSmall), ("pub-convoy/pub/dtls/pkg/protocol/handshake.errCipherSuiteUnset", Rows.laid_pub_convoy_pub_dtls_pkg_protocol_handshake_errCipherSuiteUnset)]
theorem g0 : Tryd.prog.globalNamed "pub-convoy/pub/dtls/pkg/protocol/handshake.errBufferTooSmall" = some 1 := by kernel_rfl
theorem gt0 : (Tryd.prog.globals[1]?).map (·.type) = some 54 := by kernel_rfl
theorem g1 : Tryd.prog.globalNamed "pub-convoy/pub/dtls/pkg/protocol/handshake.errCipherSuiteUnset" = some 4 := by kernel_rfl
theorem gt1 : (Tryd.prog.globals[4]?).map (·.type) = some 54 := by kernel_rfl
theorem star : "*" ++ "errors.errorString" = "*errors.errorString" := by decide
theorem rowE (u : TypeId) (h : Tryd.prog.typeName? 3 u = some "*errors.errorString") : u = 118 :=
  typeName_ptr_named (nm := "errors.errorString") (by rw [star]; kernel_rfl) (by kernel_rfl) (by decide) u (by rw [star]; exact h)
theorem cE : Tryd.prog.cellsOf 138 = 1 := by kernel_rfl
theorem cS : Tryd.prog.cellsOf 9 = 1 := by kernel_rfl
theorem door_met (os : Os) (args : Array Value) : laidMetH Tryd.prog laidL ((World.doorLaid Tryd.prog 4000 os).forCall (fun _ _ => 0) ⟨#[], args, []⟩).memory :=
  laidMetH_of_parts3 (fuel := 8) (laidMet_of_run' 8 (by kernel_rfl) (by kernel_rfl)) (by kernel_rfl) (by kernel_rfl)

set_option maxRecDepth 100000 in
theorem lifted (os : Os) (started : os.Started) (H : Type) (enc : TypeId × Value → H) :
    ReturnsInHanded {} Tryd.checked os 7 .any (fun w args => (Rows.fnClientKeyPskBackSpec.pre enc Tryd.prog Tryd.f7 [] false w args ∧ laidMetH Tryd.prog laidL w) ∧ sizedMet enc Tryd.prog Tryd.f7 (OpenSpec.ofChange Rows.fnClientKeyPskBackSpec) false w args)
      (Rows.fnClientKeyPskBackSpec.post enc Tryd.prog Tryd.f7 false true false false) := by
  refine returnsInHanded_of_change_and (C := Tryd.checked) (X := fun w _ => laidMetH Tryd.prog laidL w) (fun _ _ _ hh h => h.of_heap hh) own started (by kernel_rfl) Tryd.func7
    (ChangeSpec.witness_shaped (enc := enc) (C := Tryd.checked) (os := os) (X := fun w _ => laidMetH Tryd.prog laidL w) false (World.doorLaid Tryd.prog 4000 os) #[.string ByteArray.empty] 8 rfl (World.shaped_of_RefB (by kernel_rfl) (by kernel_rfl)) (by kernel_rfl) (by kernel_rfl) (by kernel_rfl) (door_met os _)) ?_
  intro W base args ds gs before hval0 hW _ hsz0 hL _
  have hval : ∀ (j : Nat) t v, Tryd.f7.params[j]? = some t → args[j]? = some v → Value.okWide Tryd.prog W .any base t v := hval0
  have hW' := hW
  obtain ⟨p, q, hA0, hV, rfl, hfz, hnd⟩ := hW
  have hA : DataW.TrodAll enc Tryd.prog W 0 (fun _ => true) true Tryd.f7.params.toList args.toList ds p := hA0
  rw [Tryd.params7] at hA hval
  obtain ⟨v0, vs0, d0, ds0, p0, q0, hargs0, rfl, rfl, h0, r0⟩ := trodAll_cons hA
  obtain ⟨rfl, rfl, rfl⟩ := trodAll_nil r0
  obtain rfl : args = #[v0] := by cases args; simp_all
  obtain ⟨a0, rfl, rfl, rfl, w0⟩ := open_string Tryd.underlying9 (hval 0 9 v0 rfl rfl) h0
  obtain ⟨l0, rfl⟩ := S_of a0
  clear hA0 hval0
  rw [MakeChecks.laidMetH_plain _ _ _ (by kernel_rfl)] at hL
  obtain ⟨ad0, hg0⟩ := sentinel_cell (text := [98, 117, 102, 102, 101, 114, 32, 105, 115, 32, 116, 111, 111, 32, 115, 109, 97, 108, 108]) hL (List.Mem.head _) g0 gt0 Tryd.underlying54 rowE Tryd.underlying118 Tryd.underlying138 rfl rfl Tryd.underlying9 cE cS
  obtain ⟨ad1, hg1⟩ := sentinel_cell (text := [115, 101, 114, 118, 101, 114, 32, 104, 101, 108, 108, 111, 32, 99, 97, 110, 32, 110, 111, 116, 32, 98, 101, 32, 99, 114, 101, 97, 116, 101, 100, 32, 119, 105, 116, 104, 111, 117, 116, 32, 97, 32, 99, 105, 112, 104, 101, 114, 32, 115, 117, 105, 116, 101]) hL (List.Mem.tail _ (List.Mem.head _)) g1 gt1 Tryd.underlying54 rowE Tryd.underlying118 Tryd.underlying138 rfl rfl Tryd.underlying9 cE cS
  refine (ckpsk_row l0 W ad0 hg0 ad1 hg1).mono fun e W' ⟨he, hb⟩ => ?_
  subst he
  exact ⟨_, rfl, post_below laidOut hW' rfl (by kernel_rfl) rfl Tryd.underlying4 rfl hb⟩

theorem over : Rows.FnClientKeyPskBackSaid :=
  OpenClaim.holds_of_wide 7 Tryd.f7 rfl rfl rfl rfl rfl rfl rfl ⟨rfl, rfl, rfl, rfl, rfl⟩ rfl rfl rfl rfl rfl (by kernel_rfl) Tryd.func7 (by kernel_rfl)
    (of_decide_eq_true (by kernel_rfl)) (by unfold Func.isWrapper; first | (rw [if_pos (by decide +kernel)]; kernel_rfl) | (rw [if_neg (by decide +kernel)]; exact ⟨rfl, rfl⟩))
    (fun os started H enc _ => lifted os started H enc)
theorem proved : Rows.FnClientKeyPskBackCardSaid :=
  Claim7.holds_tied_plain_at .later [] [.sentinel, .sentinel] true (true, "5cc36b2df17f212b9751b6116a73680b73c6e345936f04b7b6ec2021f8591083") false
    over (fun _ h => by cases h) (by kernel_rfl) (fun _ h => by cases h) fnClientKeyPskBack_row_tie rfl ⟨rfl, rfl⟩ (by kernel_rfl) rfl
    (fun f fn hf hfn => by
      obtain rfl : f = 7 := Option.some.inj ((show Tryd.prog.funcNamed "pub-convoy/laws.FnClientKeyPskBack" = some 7 by kernel_rfl).symm.trans hf) |>.symm
      obtain rfl : fn = Tryd.f7 := (Option.some.inj (Tryd.func7.symm.trans hfn)).symm
      exact ⟨by kernel_rfl, fun j t ht => by
        rw [Tryd.params7] at ht
        have hm : t ∈ [9] := by simpa using Array.mem_of_getElem? ht
        have hall : ([9].all fun u => !Tryd.prog.wantsStandIn u) = true := by kernel_rfl
        exact (show Tryd.prog.wantsStandIn t = false by simpa using List.all_eq_true.1 hall t hm)⟩)
    (by kernel_rfl)
#print axioms proved
end Go.Proofs.YtnjomlcenolkdaaDoor.fnClientKeyPskBack
