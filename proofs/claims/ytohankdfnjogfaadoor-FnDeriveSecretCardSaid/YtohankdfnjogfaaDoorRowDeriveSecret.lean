/- FnDeriveSecret: for every hash kind, secret, label and transcript the law answers true; no condition. -/
import Derived.Test.YtohankdfnjogfaaDoorRows
import Derived.Test.YtohankdfnjogfaaDoorCards
import Derived.Test.YtohankdfnjogfaaDoorTie
import Derived.SevenTiedAt
import Derived.Test.YtohankdfnjogfaaDoorRow
import Derived.Test.YtohankdfnjogfaaDoorDsLaw
namespace Go.Proofs.YtohankdfnjogfaaDoor.fnDeriveSecret
open Go.ChangeShapes Go.WideShapes Go.ChangeAt Go.RowKit Go.Cv
open Go.ChangeMaps (open_string shut_string)
set_option linter.unusedVariables false

theorem own : ownKnob Tryd.prog.godebug = none := by kernel_rfl
theorem laidOut : laidOutB Tryd.prog = true := by kernel_rfl
def laidL : List (String × DataW Unit) := [("pub-convoy/pub/dtls/pkg/crypto/keyschedule.errMissingHashFunction", Rows.laid_pub_convoy_pub_dtls_pkg_crypto_keyschedule_errMissingHashFunction), ("pub-convoy/pub/dtls/pkg/crypto/keyschedule.errLabelTooSmall", Rows.laid_pub_convoy_pub_dtls_pkg_crypto_keyschedule_errLabelTooSmall), ("pub-convoy/pub/dtls/pkg/crypto/keyschedule.errLabelTooBig", Rows.laid_pub_convoy_pub_dtls_pkg_crypto_keyschedule_errLabelTooBig), ("pub-convoy/pub/dtls/pkg/crypto/keyschedule.errContextTooBig", Rows.laid_pub_convoy_pub_dtls_pkg_crypto_keyschedule_errContextTooBig), ("pub-convoy/pub/dtls/pkg/crypto/keyschedule.errLengthTooBig", Rows.laid_pub_convoy_pub_dtls_pkg_crypto_keyschedule_errLengthTooBig)]
theorem g0 : Tryd.prog.globalNamed "pub-convoy/pub/dtls/pkg/crypto/keyschedule.errMissingHashFunction" = some 0 := by kernel_rfl
theorem gt0 : (Tryd.prog.globals[0]?).map (·.type) = some 32 := by kernel_rfl
theorem g1 : Tryd.prog.globalNamed "pub-convoy/pub/dtls/pkg/crypto/keyschedule.errLabelTooSmall" = some 1 := by kernel_rfl
theorem gt1 : (Tryd.prog.globals[1]?).map (·.type) = some 32 := by kernel_rfl
theorem g2 : Tryd.prog.globalNamed "pub-convoy/pub/dtls/pkg/crypto/keyschedule.errLabelTooBig" = some 2 := by kernel_rfl
theorem gt2 : (Tryd.prog.globals[2]?).map (·.type) = some 32 := by kernel_rfl
theorem g3 : Tryd.prog.globalNamed "pub-convoy/pub/dtls/pkg/crypto/keyschedule.errContextTooBig" = some 3 := by kernel_rfl
theorem gt3 : (Tryd.prog.globals[3]?).map (·.type) = some 32 := by kernel_rfl
theorem g4 : Tryd.prog.globalNamed "pub-convoy/pub/dtls/pkg/crypto/keyschedule.errLengthTooBig" = some 4 := by kernel_rfl
theorem gt4 : (Tryd.prog.globals[4]?).map (·.type) = some 32 := by kernel_rfl
theorem star : "*" ++ "errors.errorString" = "*errors.errorString" := by decide
theorem rowE (u : TypeId) (h : Tryd.prog.typeName? 3 u = some "*errors.errorString") : u = 69 :=
  typeName_ptr_named (nm := "errors.errorString") (by rw [star]; kernel_rfl) (by kernel_rfl) (by decide) u (by rw [star]; exact h)
theorem cE : Tryd.prog.cellsOf 71 = 1 := by kernel_rfl
theorem cS : Tryd.prog.cellsOf 9 = 1 := by kernel_rfl
theorem door_met (os : Os) (args : Array Value) : laidMetH Tryd.prog laidL ((World.doorLaid Tryd.prog 4000 os).forCall (fun _ _ => 0) ⟨#[], args, []⟩).memory :=
  laidMetH_of_parts3 (fuel := 8) (laidMet_of_run' 8 (by kernel_rfl) (by kernel_rfl)) (by kernel_rfl) (by kernel_rfl)

set_option maxRecDepth 100000 in
theorem lifted (os : Os) (started : os.Started) (H : Type) (enc : TypeId × Value → H) :
    ReturnsInHanded {} Tryd.checked os 3 .any (fun w args => (Rows.fnDeriveSecretSpec.pre enc Tryd.prog Tryd.f3 [] false w args ∧ laidMetH Tryd.prog laidL w) ∧ sizedMet enc Tryd.prog Tryd.f3 (OpenSpec.ofChange Rows.fnDeriveSecretSpec) false w args)
      (Rows.fnDeriveSecretSpec.post enc Tryd.prog Tryd.f3 false true false false) := by
  refine returnsInHanded_of_change_and (C := Tryd.checked) (X := fun w _ => laidMetH Tryd.prog laidL w) (fun _ _ _ hh h => h.of_heap hh) own started (by kernel_rfl) Tryd.func3
    (ChangeSpec.witness_shaped (enc := enc) (C := Tryd.checked) (os := os) (X := fun w _ => laidMetH Tryd.prog laidL w) false (World.doorLaid Tryd.prog 4000 os) #[.int .i64 0, .string ByteArray.empty, .string ByteArray.empty, .string ByteArray.empty] 8 rfl (World.shaped_of_RefB (by kernel_rfl) (by kernel_rfl)) (by kernel_rfl) (by kernel_rfl) (by kernel_rfl) (door_met os _)) ?_
  intro W base args ds gs before hval0 hW _ hsz0 hL _
  have hval : ∀ (j : Nat) t v, Tryd.f3.params[j]? = some t → args[j]? = some v → Value.okWide Tryd.prog W .any base t v := hval0
  have hW' := hW
  obtain ⟨p, q, hA0, hV, rfl, hfz, hnd⟩ := hW
  have hA : DataW.TrodAll enc Tryd.prog W 0 (fun _ => true) true Tryd.f3.params.toList args.toList ds p := hA0
  rw [Tryd.params3] at hA hval
  obtain ⟨v0, vs0, d0, ds0, p0, q0, hargs0, rfl, rfl, h0, r0⟩ := trodAll_cons hA
  obtain ⟨v1, vs1, d1, ds1, p1, q1, hargs1, rfl, rfl, h1, r1⟩ := trodAll_cons r0
  subst hargs1
  obtain ⟨v2, vs2, d2, ds2, p2, q2, hargs2, rfl, rfl, h2, r2⟩ := trodAll_cons r1
  subst hargs2
  obtain ⟨v3, vs3, d3, ds3, p3, q3, hargs3, rfl, rfl, h3, r3⟩ := trodAll_cons r2
  subst hargs3
  obtain ⟨rfl, rfl, rfl⟩ := trodAll_nil r3
  obtain rfl : args = #[v0, v1, v2, v3] := by cases args; simp_all
  obtain ⟨x0, rfl, rfl, rfl, w0⟩ := open_int Tryd.underlying3 (hval 0 3 v0 rfl rfl) h0
  obtain ⟨a1, rfl, rfl, rfl, w1⟩ := open_string Tryd.underlying9 (hval 1 9 v1 rfl rfl) h1
  obtain ⟨l1, rfl⟩ := S_of a1
  obtain ⟨a2, rfl, rfl, rfl, w2⟩ := open_string Tryd.underlying9 (hval 2 9 v2 rfl rfl) h2
  obtain ⟨l2, rfl⟩ := S_of a2
  obtain ⟨a3, rfl, rfl, rfl, w3⟩ := open_string Tryd.underlying9 (hval 3 9 v3 rfl rfl) h3
  obtain ⟨l3, rfl⟩ := S_of a3
  clear hA0 hval0
  rw [MakeChecks.laidMetH_plain _ _ _ (by kernel_rfl)] at hL
  obtain ⟨ad0, hg0⟩ := sentinel_cell (text := [72, 75, 68, 70, 45, 69, 120, 116, 114, 97, 99, 116, 32, 101, 120, 112, 101, 99, 116, 101, 100, 32, 97, 32, 110, 111, 110, 45, 110, 105, 108, 32, 104, 97, 115, 104, 32, 102, 117, 110, 99, 116, 105, 111, 110]) hL (List.Mem.head _) g0 gt0 Tryd.underlying32 rowE Tryd.underlying69 Tryd.underlying71 rfl rfl Tryd.underlying9 cE cS
  obtain ⟨ad1, hg1⟩ := sentinel_cell (text := [72, 75, 68, 70, 45, 69, 120, 112, 97, 110, 100, 45, 76, 97, 98, 101, 108, 32, 101, 120, 112, 101, 99, 116, 101, 100, 32, 97, 32, 108, 97, 98, 101, 108, 32, 119, 105, 116, 104, 32, 108, 101, 110, 103, 116, 104, 32, 62, 61, 32, 55]) hL (List.Mem.tail _ (List.Mem.head _)) g1 gt1 Tryd.underlying32 rowE Tryd.underlying69 Tryd.underlying71 rfl rfl Tryd.underlying9 cE cS
  obtain ⟨ad2, hg2⟩ := sentinel_cell (text := [72, 75, 68, 70, 45, 69, 120, 112, 97, 110, 100, 45, 76, 97, 98, 101, 108, 32, 101, 120, 112, 101, 99, 116, 101, 100, 32, 97, 32, 108, 97, 98, 101, 108, 32, 119, 105, 116, 104, 32, 108, 101, 110, 103, 116, 104, 32, 60, 61, 32, 50, 53, 53]) hL (List.Mem.tail _ (List.Mem.tail _ (List.Mem.head _))) g2 gt2 Tryd.underlying32 rowE Tryd.underlying69 Tryd.underlying71 rfl rfl Tryd.underlying9 cE cS
  obtain ⟨ad3, hg3⟩ := sentinel_cell (text := [72, 75, 68, 70, 45, 69, 120, 112, 97, 110, 100, 45, 76, 97, 98, 101, 108, 32, 101, 120, 112, 101, 99, 116, 101, 100, 32, 97, 32, 99, 111, 110, 116, 101, 120, 116, 32, 119, 105, 116, 104, 32, 108, 101, 110, 103, 116, 104, 32, 60, 61, 32, 50, 53, 53]) hL (List.Mem.tail _ (List.Mem.tail _ (List.Mem.tail _ (List.Mem.head _)))) g3 gt3 Tryd.underlying32 rowE Tryd.underlying69 Tryd.underlying71 rfl rfl Tryd.underlying9 cE cS
  obtain ⟨ad4, hg4⟩ := sentinel_cell (text := [72, 75, 68, 70, 45, 69, 120, 112, 97, 110, 100, 45, 76, 97, 98, 101, 108, 32, 101, 120, 112, 101, 99, 116, 101, 100, 32, 97, 32, 108, 101, 110, 103, 116, 104, 32, 60, 61, 32, 54, 53, 53, 51, 53]) hL (List.Mem.tail _ (List.Mem.tail _ (List.Mem.tail _ (List.Mem.tail _ (List.Mem.head _))))) g4 gt4 Tryd.underlying32 rowE Tryd.underlying69 Tryd.underlying71 rfl rfl Tryd.underlying9 cE cS
  refine (ds_row x0 w0 l1 l2 l3 W ad0 hg0 ad1 hg1 ad2 hg2 ad3 hg3 ad4 hg4).mono fun e W' ⟨he, hb⟩ => ?_
  subst he
  exact ⟨_, rfl, post_below laidOut hW' rfl (by kernel_rfl) rfl Tryd.underlying4 rfl hb⟩

theorem over : Rows.FnDeriveSecretSaid :=
  OpenClaim.holds_of_wide 3 Tryd.f3 rfl rfl rfl rfl rfl rfl rfl ⟨rfl, rfl, rfl, rfl, rfl⟩ rfl rfl rfl rfl rfl (by kernel_rfl) Tryd.func3 (by kernel_rfl)
    (of_decide_eq_true (by kernel_rfl)) (by unfold Func.isWrapper; first | (rw [if_pos (by decide +kernel)]; kernel_rfl) | (rw [if_neg (by decide +kernel)]; exact ⟨rfl, rfl⟩))
    (fun os started H enc _ => lifted os started H enc)
theorem proved : Rows.FnDeriveSecretCardSaid :=
  Claim7.holds_tied_plain_at .later [] [.sentinel, .sentinel, .sentinel, .sentinel, .sentinel] true (true, "300a003eba90dfa9f48f5872212bc7a1f334010b6a5fe449755689f0d6fdc340") true
    over (fun _ h => by cases h) (by kernel_rfl) (fun _ h => by cases h) fnDeriveSecret_row_tie rfl ⟨rfl, rfl⟩ (by kernel_rfl) rfl
    (fun f fn hf hfn => by
      obtain rfl : f = 3 := Option.some.inj ((show Tryd.prog.funcNamed "pub-convoy/laws.FnDeriveSecret" = some 3 by kernel_rfl).symm.trans hf) |>.symm
      obtain rfl : fn = Tryd.f3 := (Option.some.inj (Tryd.func3.symm.trans hfn)).symm
      exact ⟨by kernel_rfl, fun j t ht => by
        rw [Tryd.params3] at ht
        have hm : t ∈ [3, 9, 9, 9] := by simpa using Array.mem_of_getElem? ht
        have hall : ([3, 9, 9, 9].all fun u => !Tryd.prog.wantsStandIn u) = true := by kernel_rfl
        exact (show Tryd.prog.wantsStandIn t = false by simpa using List.all_eq_true.1 hall t hm)⟩)
    (by kernel_rfl)
#print axioms proved
end Go.Proofs.YtohankdfnjogfaaDoor.fnDeriveSecret
