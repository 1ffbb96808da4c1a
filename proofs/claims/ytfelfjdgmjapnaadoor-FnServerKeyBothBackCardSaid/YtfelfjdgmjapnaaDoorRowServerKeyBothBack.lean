/- FnServerKeyBothBack: a key exchange with a hint and a curve is read as what it is; no condition. -/
import Derived.Test.YtfelfjdgmjapnaaDoorRows
import Derived.Test.YtfelfjdgmjapnaaDoorCards
import Derived.Test.YtfelfjdgmjapnaaDoorTie
import Derived.SevenTiedAt
import Derived.Test.YtfelfjdgmjapnaaDoorRow
import Derived.Test.YtfelfjdgmjapnaaDoorSbbLaw
namespace Go.Proofs.YtfelfjdgmjapnaaDoor.fnServerKeyBothBack
open Go.ChangeShapes Go.WideShapes Go.ChangeAt Go.RowKit Go.Cv
open Go.ChangeMaps (open_string shut_string)
set_option linter.unusedVariables false

theorem own : ownKnob Tryd.prog.godebug = none := by kernel_rfl
theorem laidOut : laidOutB Tryd.prog = true := by kernel_rfl
def laidL : List (String × DataW Unit) := [("pub-convoy/pub/dtls/pkg/crypto/signaturehash.errInvalidSignatureAlgorithm", Rows.laid_pub_convoy_pub_dtls_pkg_crypto_signaturehash_errInvalidSignatureAlgorithm), ("pub-convoy/pub/dtls/pkg/crypto/signaturehash.errInvalidHashAlgorithm", Rows.laid_pub_convoy_pub_dtls_pkg_crypto_signaturehash_errInvalidHashAlgorithm), ("pub-convoy/pub/dtls/pkg/protocol/handshake.errBufferTooSmall", Rows.laid_pub_convoy_pub_dtls_pkg_protocol_handshake_errBufferTooSmall), ("pub-convoy/pub/dtls/pkg/protocol/handshake.errLengthMismatch", Rows.laid_pub_convoy_pub_dtls_pkg_protocol_handshake_errLengthMismatch), ("pub-convoy/pub/dtls/pkg/protocol/handshake.errInvalidSignHashAlgorithm", Rows.laid_pub_convoy_pub_dtls_pkg_protocol_handshake_errInvalidSignHashAlgorithm), ("pub-convoy/pub/dtls/pkg/protocol/handshake.errInvalidEllipticCurveType", Rows.laid_pub_convoy_pub_dtls_pkg_protocol_handshake_errInvalidEllipticCurveType), ("pub-convoy/pub/dtls/pkg/protocol/handshake.errInvalidNamedCurve", Rows.laid_pub_convoy_pub_dtls_pkg_protocol_handshake_errInvalidNamedCurve), ("pub-convoy/pub/dtls/pkg/protocol/handshake.errCipherSuiteUnset", Rows.laid_pub_convoy_pub_dtls_pkg_protocol_handshake_errCipherSuiteUnset)]
theorem g0 : Tryd.prog.globalNamed "pub-convoy/pub/dtls/pkg/crypto/signaturehash.errInvalidSignatureAlgorithm" = some 10 := by kernel_rfl
theorem gt0 : (Tryd.prog.globals[10]?).map (·.type) = some 59 := by kernel_rfl
theorem g1 : Tryd.prog.globalNamed "pub-convoy/pub/dtls/pkg/crypto/signaturehash.errInvalidHashAlgorithm" = some 9 := by kernel_rfl
theorem gt1 : (Tryd.prog.globals[9]?).map (·.type) = some 59 := by kernel_rfl
theorem g2 : Tryd.prog.globalNamed "pub-convoy/pub/dtls/pkg/protocol/handshake.errBufferTooSmall" = some 0 := by kernel_rfl
theorem gt2 : (Tryd.prog.globals[0]?).map (·.type) = some 59 := by kernel_rfl
theorem g3 : Tryd.prog.globalNamed "pub-convoy/pub/dtls/pkg/protocol/handshake.errLengthMismatch" = some 3 := by kernel_rfl
theorem gt3 : (Tryd.prog.globals[3]?).map (·.type) = some 59 := by kernel_rfl
theorem g4 : Tryd.prog.globalNamed "pub-convoy/pub/dtls/pkg/protocol/handshake.errInvalidSignHashAlgorithm" = some 6 := by kernel_rfl
theorem gt4 : (Tryd.prog.globals[6]?).map (·.type) = some 59 := by kernel_rfl
theorem g5 : Tryd.prog.globalNamed "pub-convoy/pub/dtls/pkg/protocol/handshake.errInvalidEllipticCurveType" = some 4 := by kernel_rfl
theorem gt5 : (Tryd.prog.globals[4]?).map (·.type) = some 59 := by kernel_rfl
theorem g6 : Tryd.prog.globalNamed "pub-convoy/pub/dtls/pkg/protocol/handshake.errInvalidNamedCurve" = some 5 := by kernel_rfl
theorem gt6 : (Tryd.prog.globals[5]?).map (·.type) = some 59 := by kernel_rfl
theorem g7 : Tryd.prog.globalNamed "pub-convoy/pub/dtls/pkg/protocol/handshake.errCipherSuiteUnset" = some 1 := by kernel_rfl
theorem gt7 : (Tryd.prog.globals[1]?).map (·.type) = some 59 := by kernel_rfl
theorem star : "*" ++ "errors.errorString" = "*errors.errorString" := by decide
theorem rowE (u : TypeId) (h : Tryd.prog.typeName? 3 u = some "*errors.errorString") : u = 141 :=
  typeName_ptr_named (nm := "errors.errorString") (by rw [star]; kernel_rfl) (by kernel_rfl) (by decide) u (by rw [star]; exact h)
theorem cE : Tryd.prog.cellsOf 143 = 1 := by kernel_rfl
theorem cS : Tryd.prog.cellsOf 9 = 1 := by kernel_rfl
theorem door_met (os : Os) (args : Array Value) : laidMetH Tryd.prog laidL ((World.doorLaid Tryd.prog 4000 os).forCall (fun _ _ => 0) ⟨#[], args, []⟩).memory :=
  laidMetH_of_parts3 (fuel := 8) (laidMet_of_run' 8 (by kernel_rfl) (by kernel_rfl)) (by kernel_rfl) (by kernel_rfl)

set_option maxRecDepth 100000 in
theorem lifted (os : Os) (started : os.Started) (H : Type) (enc : TypeId × Value → H) :
    ReturnsInHanded {} Tryd.checked os 3 .any (fun w args => (Rows.fnServerKeyBothBackSpec.pre enc Tryd.prog Tryd.f3 [] false w args ∧ laidMetH Tryd.prog laidL w) ∧ sizedMet enc Tryd.prog Tryd.f3 (OpenSpec.ofChange Rows.fnServerKeyBothBackSpec) false w args)
      (Rows.fnServerKeyBothBackSpec.post enc Tryd.prog Tryd.f3 false true false false) := by
  refine returnsInHanded_of_change_and (C := Tryd.checked) (X := fun w _ => laidMetH Tryd.prog laidL w) (fun _ _ _ hh h => h.of_heap hh) own started (by kernel_rfl) Tryd.func3
    (ChangeSpec.witness_shaped (enc := enc) (C := Tryd.checked) (os := os) (X := fun w _ => laidMetH Tryd.prog laidL w) false (World.doorLaid Tryd.prog 4000 os) #[.string ByteArray.empty, .int .u16 0, .string ByteArray.empty] 8 rfl (World.shaped_of_RefB (by kernel_rfl) (by kernel_rfl)) (by kernel_rfl) (by kernel_rfl) (by kernel_rfl) (door_met os _)) ?_
  intro W base args ds gs before hval0 hW _ hsz0 hL _
  have hval : ∀ (j : Nat) t v, Tryd.f3.params[j]? = some t → args[j]? = some v → Value.okWide Tryd.prog W .any base t v := hval0
  have hW' := hW
  obtain ⟨p, q, hA0, hV, rfl, hfz, hnd⟩ := hW
  have hA : DataW.TrodAll enc Tryd.prog W 0 (fun _ => true) true Tryd.f3.params.toList args.toList ds p := hA0
  rw [Tryd.params3] at hA hval
  obtain ⟨v0, vs0, d0, ds0, p0, q0, hargs0, rfl, rfl, h0, r0⟩ := trodAll_cons hA
  obtain ⟨v1, vs1, d1, ds1, p1, q1, hargs1, rfl, rfl, h1, r1⟩ := trodAll_cons r0
  subst hargs1
  obtain ⟨v2, vs2, d2, ds2, p2, q2, hargs2, rfl, rfl, h2, r2⟩ := trodAll_cons r1
  subst hargs2
  obtain ⟨rfl, rfl, rfl⟩ := trodAll_nil r2
  obtain rfl : args = #[v0, v1, v2] := by cases args; simp_all
  obtain ⟨a0, rfl, rfl, rfl, w0⟩ := open_string Tryd.underlying9 (hval 0 9 v0 rfl rfl) h0
  obtain ⟨l0, rfl⟩ := S_of a0
  obtain ⟨x1, rfl, rfl, rfl, w1⟩ := open_int Tryd.underlying22 (hval 1 22 v1 rfl rfl) h1
  obtain ⟨a2, rfl, rfl, rfl, w2⟩ := open_string Tryd.underlying9 (hval 2 9 v2 rfl rfl) h2
  obtain ⟨l2, rfl⟩ := S_of a2
  clear hA0 hval0
  rw [MakeChecks.laidMetH_plain _ _ _ (by kernel_rfl)] at hL
  obtain ⟨ad0, hg0⟩ := sentinel_cell (text := [105, 110, 118, 97, 108, 105, 100, 32, 115, 105, 103, 110, 97, 116, 117, 114, 101, 32, 97, 108, 103, 111, 114, 105, 116, 104, 109]) hL (List.Mem.head _) g0 gt0 Tryd.underlying59 rowE Tryd.underlying141 Tryd.underlying143 rfl rfl Tryd.underlying9 cE cS
  obtain ⟨ad1, hg1⟩ := sentinel_cell (text := [105, 110, 118, 97, 108, 105, 100, 32, 104, 97, 115, 104, 32, 97, 108, 103, 111, 114, 105, 116, 104, 109]) hL (List.Mem.tail _ (List.Mem.head _)) g1 gt1 Tryd.underlying59 rowE Tryd.underlying141 Tryd.underlying143 rfl rfl Tryd.underlying9 cE cS
  obtain ⟨ad2, hg2⟩ := sentinel_cell (text := [98, 117, 102, 102, 101, 114, 32, 105, 115, 32, 116, 111, 111, 32, 115, 109, 97, 108, 108]) hL (List.Mem.tail _ (List.Mem.tail _ (List.Mem.head _))) g2 gt2 Tryd.underlying59 rowE Tryd.underlying141 Tryd.underlying143 rfl rfl Tryd.underlying9 cE cS
  obtain ⟨ad3, hg3⟩ := sentinel_cell (text := [100, 97, 116, 97, 32, 108, 101, 110, 103, 116, 104, 32, 97, 110, 100, 32, 100, 101, 99, 108, 97, 114, 101, 100, 32, 108, 101, 110, 103, 116, 104, 32, 100, 111, 32, 110, 111, 116, 32, 109, 97, 116, 99, 104]) hL (List.Mem.tail _ (List.Mem.tail _ (List.Mem.tail _ (List.Mem.head _)))) g3 gt3 Tryd.underlying59 rowE Tryd.underlying141 Tryd.underlying143 rfl rfl Tryd.underlying9 cE cS
  obtain ⟨ad4, hg4⟩ := sentinel_cell (text := [105, 110, 118, 97, 108, 105, 100, 32, 115, 105, 103, 110, 97, 116, 117, 114, 101, 47, 104, 97, 115, 104, 32, 97, 108, 103, 111, 114, 105, 116, 104, 109]) hL (List.Mem.tail _ (List.Mem.tail _ (List.Mem.tail _ (List.Mem.tail _ (List.Mem.head _))))) g4 gt4 Tryd.underlying59 rowE Tryd.underlying141 Tryd.underlying143 rfl rfl Tryd.underlying9 cE cS
  obtain ⟨ad5, hg5⟩ := sentinel_cell (text := [105, 110, 118, 97, 108, 105, 100, 32, 111, 114, 32, 117, 110, 107, 110, 111, 119, 110, 32, 101, 108, 108, 105, 112, 116, 105, 99, 32, 99, 117, 114, 118, 101, 32, 116, 121, 112, 101]) hL (List.Mem.tail _ (List.Mem.tail _ (List.Mem.tail _ (List.Mem.tail _ (List.Mem.tail _ (List.Mem.head _)))))) g5 gt5 Tryd.underlying59 rowE Tryd.underlying141 Tryd.underlying143 rfl rfl Tryd.underlying9 cE cS
  obtain ⟨ad6, hg6⟩ := sentinel_cell (text := [105, 110, 118, 97, 108, 105, 100, 32, 110, 97, 109, 101, 100, 32, 99, 117, 114, 118, 101]) hL (List.Mem.tail _ (List.Mem.tail _ (List.Mem.tail _ (List.Mem.tail _ (List.Mem.tail _ (List.Mem.tail _ (List.Mem.head _))))))) g6 gt6 Tryd.underlying59 rowE Tryd.underlying141 Tryd.underlying143 rfl rfl Tryd.underlying9 cE cS
  obtain ⟨ad7, hg7⟩ := sentinel_cell (text := [115, 101, 114, 118, 101, 114, 32, 104, 101, 108, 108, 111, 32, 99, 97, 110, 32, 110, 111, 116, 32, 98, 101, 32, 99, 114, 101, 97, 116, 101, 100, 32, 119, 105, 116, 104, 111, 117, 116, 32, 97, 32, 99, 105, 112, 104, 101, 114, 32, 115, 117, 105, 116, 101]) hL (List.Mem.tail _ (List.Mem.tail _ (List.Mem.tail _ (List.Mem.tail _ (List.Mem.tail _ (List.Mem.tail _ (List.Mem.tail _ (List.Mem.head _)))))))) g7 gt7 Tryd.underlying59 rowE Tryd.underlying141 Tryd.underlying143 rfl rfl Tryd.underlying9 cE cS
  refine (sbl_row l0 x1 w1 l2 W ad0 hg0 ad1 hg1 ad2 hg2 ad3 hg3 ad4 hg4 ad5 hg5 ad6 hg6 ad7 hg7).mono fun e W' ⟨he, hb⟩ => ?_
  subst he
  exact ⟨_, rfl, post_below laidOut hW' rfl (by kernel_rfl) rfl Tryd.underlying4 rfl hb⟩

theorem over : Rows.FnServerKeyBothBackSaid :=
  OpenClaim.holds_of_wide 3 Tryd.f3 rfl rfl rfl rfl rfl rfl rfl ⟨rfl, rfl, rfl, rfl, rfl⟩ rfl rfl rfl rfl rfl (by kernel_rfl) Tryd.func3 (by kernel_rfl)
    (of_decide_eq_true (by kernel_rfl)) (by unfold Func.isWrapper; first | (rw [if_pos (by decide +kernel)]; kernel_rfl) | (rw [if_neg (by decide +kernel)]; exact ⟨rfl, rfl⟩))
    (fun os started H enc _ => lifted os started H enc)
theorem proved : Rows.FnServerKeyBothBackCardSaid :=
  Claim7.holds_tied_plain_at .later [] [.sentinel, .sentinel, .sentinel, .sentinel, .sentinel, .sentinel, .sentinel, .sentinel] true (true, "ba45e9a8590ab89b23e56fc5a1649ac5c253f49d383fd3e9271923a4f0e501ec") true
    over (fun _ h => by cases h) (by kernel_rfl) (fun _ h => by cases h) fnServerKeyBothBack_row_tie rfl ⟨rfl, rfl⟩ (by kernel_rfl) rfl
    (fun f fn hf hfn => by
      obtain rfl : f = 3 := Option.some.inj ((show Tryd.prog.funcNamed "pub-convoy/laws.FnServerKeyBothBack" = some 3 by kernel_rfl).symm.trans hf) |>.symm
      obtain rfl : fn = Tryd.f3 := (Option.some.inj (Tryd.func3.symm.trans hfn)).symm
      exact ⟨by kernel_rfl, fun j t ht => by
        rw [Tryd.params3] at ht
        have hm : t ∈ [9, 22, 9] := by simpa using Array.mem_of_getElem? ht
        have hall : ([9, 22, 9].all fun u => !Tryd.prog.wantsStandIn u) = true := by kernel_rfl
        exact (show Tryd.prog.wantsStandIn t = false by simpa using List.all_eq_true.1 hall t hm)⟩)
    (by kernel_rfl)
#print axioms proved
end Go.Proofs.YtfelfjdgmjapnaaDoor.fnServerKeyBothBack
