/-
  NARROWER THAN 'FOR EVERY INPUT', by the rows' own cells (each row's printed sentence says how): FnServerKeyBothBack: laid · FnOIDFiltersWrite: laid.
  DERIVED. THE GIVEN ROWS OF THIS SEAT. 2 by the template 'for every input the law returns true; each argument reads behind the call as it read before'; 0 by the template 'total and deterministic' (their statements: YtfelfjdgmjapnaaDoorTotals.lean).
  GIVEN WITH THE SEED: the statements are not yours to turn. If you find one false, say at which input.
  Laid BY PROGRAM, IN A SANDBOX (cutbox-rows.mjs): the forced cells as the released guide's own fill.sh prints them over the translation 5751d5e74d7c9347… (all of the seat's roots in one cut). By AI agents, Wed Nov 11 2026. No macro, syntax, notation, axiom, sorry.
-/
import Derived.Test.YtfelfjdgmjapnaaDoorChecked
import GoSem.Claim
import GoSem.ClaimJoined
import GoSem.ClaimMapViews
import Derived.JoinedTies
import Derived.KernelRfl
namespace Go.Proofs.YtfelfjdgmjapnaaDoor
/- THE CELL 'sum', in the pinned program and in every row, IS THE sha256 OF THE DUMP (.gsa) THAT YtfelfjdgmjapnaaDoorProg.lean LOADS. Nothing in Lean hashes anything: it is a label: what it is worth is what the hold of that sum in a sandbox is worth. -/
noncomputable def Tryd.pinned : Pinned := { name := "ytfelfjdgmjapnaadoor", sum := "5751d5e74d7c9347a4da5153808d21f5b8c0c066e79aae7277255ba2b898b281", checked := Tryd.checked }
namespace Rows
def none {H : Type} : Left H := { results := [], args := [] }

/- WHAT THE LISTED PACKAGE-LEVEL VARIABLES READ AS WHEN THE CALL BEGINS. Each datum BY PROGRAM (the guide's laid-datum.mjs) off the statement by which the dump's own 'gosem.cut.vars' lays the variable. In a bare row this is a premise. The card (YtfelfjdgmjapnaaDoorCards.lean) ties it to the program's text. -/
def laid_pub_convoy_pub_dtls_pkg_crypto_signaturehash_errInvalidSignatureAlgorithm {H : Type} : DataW H := .iface "*errors.errorString" (.ptr (.agg [.lit (.string [105, 110, 118, 97, 108, 105, 100, 32, 115, 105, 103, 110, 97, 116, 117, 114, 101, 32, 97, 108, 103, 111, 114, 105, 116, 104, 109])]))
def laid_pub_convoy_pub_dtls_pkg_crypto_signaturehash_errInvalidHashAlgorithm {H : Type} : DataW H := .iface "*errors.errorString" (.ptr (.agg [.lit (.string [105, 110, 118, 97, 108, 105, 100, 32, 104, 97, 115, 104, 32, 97, 108, 103, 111, 114, 105, 116, 104, 109])]))
def laid_pub_convoy_pub_dtls_pkg_protocol_handshake_errBufferTooSmall {H : Type} : DataW H := .iface "*errors.errorString" (.ptr (.agg [.lit (.string [98, 117, 102, 102, 101, 114, 32, 105, 115, 32, 116, 111, 111, 32, 115, 109, 97, 108, 108])]))
def laid_pub_convoy_pub_dtls_pkg_protocol_handshake_errLengthMismatch {H : Type} : DataW H := .iface "*errors.errorString" (.ptr (.agg [.lit (.string [100, 97, 116, 97, 32, 108, 101, 110, 103, 116, 104, 32, 97, 110, 100, 32, 100, 101, 99, 108, 97, 114, 101, 100, 32, 108, 101, 110, 103, 116, 104, 32, 100, 111, 32, 110, 111, 116, 32, 109, 97, 116, 99, 104])]))
def laid_pub_convoy_pub_dtls_pkg_protocol_handshake_errInvalidSignHashAlgorithm {H : Type} : DataW H := .iface "*errors.errorString" (.ptr (.agg [.lit (.string [105, 110, 118, 97, 108, 105, 100, 32, 115, 105, 103, 110, 97, 116, 117, 114, 101, 47, 104, 97, 115, 104, 32, 97, 108, 103, 111, 114, 105, 116, 104, 109])]))
def laid_pub_convoy_pub_dtls_pkg_protocol_handshake_errInvalidEllipticCurveType {H : Type} : DataW H := .iface "*errors.errorString" (.ptr (.agg [.lit (.string [105, 110, 118, 97, 108, 105, 100, 32, 111, 114, 32, 117, 110, 107, 110, 111, 119, 110, 32, 101, 108, 108, 105, 112, 116, 105, 99, 32, 99, 117, 114, 118, 101, 32, 116, 121, 112, 101])]))
def laid_pub_convoy_pub_dtls_pkg_protocol_handshake_errInvalidNamedCurve {H : Type} : DataW H := .iface "*errors.errorString" (.ptr (.agg [.lit (.string [105, 110, 118, 97, 108, 105, 100, 32, 110, 97, 109, 101, 100, 32, 99, 117, 114, 118, 101])]))
def laid_pub_convoy_pub_dtls_pkg_protocol_handshake_errCipherSuiteUnset {H : Type} : DataW H := .iface "*errors.errorString" (.ptr (.agg [.lit (.string [115, 101, 114, 118, 101, 114, 32, 104, 101, 108, 108, 111, 32, 99, 97, 110, 32, 110, 111, 116, 32, 98, 101, 32, 99, 114, 101, 97, 116, 101, 100, 32, 119, 105, 116, 104, 111, 117, 116, 32, 97, 32, 99, 105, 112, 104, 101, 114, 32, 115, 117, 105, 116, 101])]))
def laid_pub_convoy_pub_dtls_pkg_protocol_extension_errEmptyOIDFilter {H : Type} : DataW H := .iface "*errors.errorString" (.ptr (.agg [.lit (.string [110, 111, 32, 111, 105, 100, 32, 115, 101, 116, 32, 102, 111, 114, 32, 97, 32, 79, 73, 68, 32, 102, 105, 108, 116, 101, 114])]))
def laid_pub_convoy_pub_dtls_pkg_protocol_extension_errDuplicateOID {H : Type} : DataW H := .iface "*errors.errorString" (.ptr (.agg [.lit (.string [100, 117, 112, 108, 105, 99, 97, 116, 101, 32, 79, 73, 68, 32, 102, 105, 108, 116, 101, 114, 115])]))

/-- 'laws.FnServerKeyBothBack': WHATEVER THE INPUT: true; the input reads as it did. -/
def fnServerKeyBothBackSpec : ChangeSpec := { name := "fnServerKeyBothBack", fn := fun _ => fun
  | [d1, d2, d3] => { results := [.lit (.bool true)], args := [d1, d2, d3] }
  | _ => none }
def fnServerKeyBothBackRow : OpenClaim := { program := "ytfelfjdgmjapnaadoor", sum := "5751d5e74d7c9347a4da5153808d21f5b8c0c066e79aae7277255ba2b898b281", func := "pub-convoy/laws.FnServerKeyBothBack", spec := "fnServerKeyBothBack", unfollowed := true, recurses := true, named := ["pub-convoy/pub/dtls/pkg/protocol/handshake.errBufferTooSmall", "pub-convoy/pub/dtls/pkg/protocol/handshake.errCipherSuiteUnset", "encoding/binary.BigEndian", "pub-convoy/pub/dtls/pkg/protocol/handshake.errLengthMismatch", "pub-convoy/pub/dtls/pkg/protocol/handshake.errInvalidEllipticCurveType", "pub-convoy/pub/dtls/pkg/protocol/handshake.errInvalidNamedCurve", "pub-convoy/pub/dtls/pkg/protocol/handshake.errInvalidSignHashAlgorithm", "pub-convoy/pub/dtls/pkg/crypto/signaturehash.errInvalidHashAlgorithm", "pub-convoy/pub/dtls/pkg/crypto/signaturehash.errInvalidSignatureAlgorithm"], apart := false, laid := [("pub-convoy/pub/dtls/pkg/crypto/signaturehash.errInvalidSignatureAlgorithm", laid_pub_convoy_pub_dtls_pkg_crypto_signaturehash_errInvalidSignatureAlgorithm), ("pub-convoy/pub/dtls/pkg/crypto/signaturehash.errInvalidHashAlgorithm", laid_pub_convoy_pub_dtls_pkg_crypto_signaturehash_errInvalidHashAlgorithm), ("pub-convoy/pub/dtls/pkg/protocol/handshake.errBufferTooSmall", laid_pub_convoy_pub_dtls_pkg_protocol_handshake_errBufferTooSmall), ("pub-convoy/pub/dtls/pkg/protocol/handshake.errLengthMismatch", laid_pub_convoy_pub_dtls_pkg_protocol_handshake_errLengthMismatch), ("pub-convoy/pub/dtls/pkg/protocol/handshake.errInvalidSignHashAlgorithm", laid_pub_convoy_pub_dtls_pkg_protocol_handshake_errInvalidSignHashAlgorithm), ("pub-convoy/pub/dtls/pkg/protocol/handshake.errInvalidEllipticCurveType", laid_pub_convoy_pub_dtls_pkg_protocol_handshake_errInvalidEllipticCurveType), ("pub-convoy/pub/dtls/pkg/protocol/handshake.errInvalidNamedCurve", laid_pub_convoy_pub_dtls_pkg_protocol_handshake_errInvalidNamedCurve), ("pub-convoy/pub/dtls/pkg/protocol/handshake.errCipherSuiteUnset", laid_pub_convoy_pub_dtls_pkg_protocol_handshake_errCipherSuiteUnset)] }
def FnServerKeyBothBackSaid : Prop := fnServerKeyBothBackRow.holds Tryd.pinned (OpenSpec.ofChange fnServerKeyBothBackSpec)

/-- ITS FALSE NEIGHBOUR: 'it returns false'. Refute it at one input. -/
def fnServerKeyBothBackWrong : ChangeSpec := { name := "fnServerKeyBothBack", fn := fun _ => fun
  | [d1, d2, d3] => { results := [.lit (.bool false)], args := [d1, d2, d3] }
  | _ => none }
def FnServerKeyBothBackWrongFalsely : Prop := fnServerKeyBothBackRow.holds Tryd.pinned (OpenSpec.ofChange fnServerKeyBothBackWrong)

/-- 'laws.FnOIDFiltersWrite': WHATEVER THE INPUT: true; the input reads as it did. -/
def fnOIDFiltersWriteSpec : ChangeSpec := { name := "fnOIDFiltersWrite", fn := fun _ => fun
  | [d] => { results := [.lit (.bool true)], args := [d] }
  | _ => none }
def fnOIDFiltersWriteRow : OpenClaim := { program := "ytfelfjdgmjapnaadoor", sum := "5751d5e74d7c9347a4da5153808d21f5b8c0c066e79aae7277255ba2b898b281", func := "pub-convoy/laws.FnOIDFiltersWrite", spec := "fnOIDFiltersWrite", unfollowed := true, recurses := true, named := ["pub-convoy/pub/dtls/pkg/protocol/extension.errEmptyOIDFilter", "pub-convoy/pub/dtls/pkg/protocol/extension.errDuplicateOID"], apart := false, laid := [("pub-convoy/pub/dtls/pkg/protocol/extension.errEmptyOIDFilter", laid_pub_convoy_pub_dtls_pkg_protocol_extension_errEmptyOIDFilter), ("pub-convoy/pub/dtls/pkg/protocol/extension.errDuplicateOID", laid_pub_convoy_pub_dtls_pkg_protocol_extension_errDuplicateOID)] }
def FnOIDFiltersWriteSaid : Prop := fnOIDFiltersWriteRow.holds Tryd.pinned (OpenSpec.ofChange fnOIDFiltersWriteSpec)

/-- ITS FALSE NEIGHBOUR: 'it returns false'. Refute it at one input. -/
def fnOIDFiltersWriteWrong : ChangeSpec := { name := "fnOIDFiltersWrite", fn := fun _ => fun
  | [d] => { results := [.lit (.bool false)], args := [d] }
  | _ => none }
def FnOIDFiltersWriteWrongFalsely : Prop := fnOIDFiltersWriteRow.holds Tryd.pinned (OpenSpec.ofChange fnOIDFiltersWriteWrong)

/- THE SECOND FORM. 'bulk': how many values and letters a reading holds, each counted each time it is reached (what is shared counts as often as it is met; a slice's spare places count too). A statement '..UptoSaid' is the law's where the arguments, and the package variables that the reading takes, are together of bulk at most 1048576: NARROWER than '..Said'. Prove '..Said' where nothing that the law and all that it calls make is longer than what came in: it says more and counts as full. Else prove '..UptoSaid'. A law counts once. -/
mutual
def uptoBulk {H : Type} : DataW H → Nat
  | .lit (.string bytes) => bytes.length + 1
  | .lit _ => 1
  | .nil => 1
  | .ptr d => uptoBulk d + 1
  | .slice elems spare => uptoBulkAll elems + uptoBulkAll spare + 1
  | .agg parts => uptoBulkAll parts + 1
  | .iface _ d => uptoBulk d + 1
  | .map entries => uptoBulkEntries entries + 1
  | .held _ => 1
def uptoBulkAll {H : Type} : List (DataW H) → Nat
  | [] => 0
  | d :: r => uptoBulk d + uptoBulkAll r
def uptoBulkEntries {H : Type} : List (Lit × DataW H) → Nat
  | [] => 0
  | x :: r => uptoBulkEntry x + uptoBulkEntries r
def uptoBulkEntry {H : Type} : Lit × DataW H → Nat
  | (.string bytes, d) => bytes.length + uptoBulk d + 1
  | (_, d) => uptoBulk d + 1
 end
def uptoSmall : (H : Type) → List (DataW H) → Bool := fun _ ds => decide (uptoBulkAll ds ≤ 1048576)
def OpenSpec.upto (s : _root_.Go.ChangeSpec) : _root_.Go.OpenSpec := { _root_.Go.OpenSpec.ofChange s with cond := some uptoSmall }

/-- 'laws.FnServerKeyBothBack', WHERE WHAT IT READS IS OF BULK AT MOST 1048576: true; the input reads as it did. -/
def fnServerKeyBothBackUptoRow : OpenClaim := { program := "ytfelfjdgmjapnaadoor", sum := "5751d5e74d7c9347a4da5153808d21f5b8c0c066e79aae7277255ba2b898b281", func := "pub-convoy/laws.FnServerKeyBothBack", spec := "fnServerKeyBothBack", unfollowed := true, recurses := true, named := ["pub-convoy/pub/dtls/pkg/protocol/handshake.errBufferTooSmall", "pub-convoy/pub/dtls/pkg/protocol/handshake.errCipherSuiteUnset", "encoding/binary.BigEndian", "pub-convoy/pub/dtls/pkg/protocol/handshake.errLengthMismatch", "pub-convoy/pub/dtls/pkg/protocol/handshake.errInvalidEllipticCurveType", "pub-convoy/pub/dtls/pkg/protocol/handshake.errInvalidNamedCurve", "pub-convoy/pub/dtls/pkg/protocol/handshake.errInvalidSignHashAlgorithm", "pub-convoy/pub/dtls/pkg/crypto/signaturehash.errInvalidHashAlgorithm", "pub-convoy/pub/dtls/pkg/crypto/signaturehash.errInvalidSignatureAlgorithm"], apart := false, laid := [("pub-convoy/pub/dtls/pkg/crypto/signaturehash.errInvalidSignatureAlgorithm", laid_pub_convoy_pub_dtls_pkg_crypto_signaturehash_errInvalidSignatureAlgorithm), ("pub-convoy/pub/dtls/pkg/crypto/signaturehash.errInvalidHashAlgorithm", laid_pub_convoy_pub_dtls_pkg_crypto_signaturehash_errInvalidHashAlgorithm), ("pub-convoy/pub/dtls/pkg/protocol/handshake.errBufferTooSmall", laid_pub_convoy_pub_dtls_pkg_protocol_handshake_errBufferTooSmall), ("pub-convoy/pub/dtls/pkg/protocol/handshake.errLengthMismatch", laid_pub_convoy_pub_dtls_pkg_protocol_handshake_errLengthMismatch), ("pub-convoy/pub/dtls/pkg/protocol/handshake.errInvalidSignHashAlgorithm", laid_pub_convoy_pub_dtls_pkg_protocol_handshake_errInvalidSignHashAlgorithm), ("pub-convoy/pub/dtls/pkg/protocol/handshake.errInvalidEllipticCurveType", laid_pub_convoy_pub_dtls_pkg_protocol_handshake_errInvalidEllipticCurveType), ("pub-convoy/pub/dtls/pkg/protocol/handshake.errInvalidNamedCurve", laid_pub_convoy_pub_dtls_pkg_protocol_handshake_errInvalidNamedCurve), ("pub-convoy/pub/dtls/pkg/protocol/handshake.errCipherSuiteUnset", laid_pub_convoy_pub_dtls_pkg_protocol_handshake_errCipherSuiteUnset)], narrowed := true }
def FnServerKeyBothBackUptoSaid : Prop := fnServerKeyBothBackUptoRow.holds Tryd.pinned (OpenSpec.upto fnServerKeyBothBackSpec)

/-- 'laws.FnOIDFiltersWrite', WHERE WHAT IT READS IS OF BULK AT MOST 1048576: true; the input reads as it did. -/
def fnOIDFiltersWriteUptoRow : OpenClaim := { program := "ytfelfjdgmjapnaadoor", sum := "5751d5e74d7c9347a4da5153808d21f5b8c0c066e79aae7277255ba2b898b281", func := "pub-convoy/laws.FnOIDFiltersWrite", spec := "fnOIDFiltersWrite", unfollowed := true, recurses := true, named := ["pub-convoy/pub/dtls/pkg/protocol/extension.errEmptyOIDFilter", "pub-convoy/pub/dtls/pkg/protocol/extension.errDuplicateOID"], apart := false, laid := [("pub-convoy/pub/dtls/pkg/protocol/extension.errEmptyOIDFilter", laid_pub_convoy_pub_dtls_pkg_protocol_extension_errEmptyOIDFilter), ("pub-convoy/pub/dtls/pkg/protocol/extension.errDuplicateOID", laid_pub_convoy_pub_dtls_pkg_protocol_extension_errDuplicateOID)], narrowed := true }
def FnOIDFiltersWriteUptoSaid : Prop := fnOIDFiltersWriteUptoRow.holds Tryd.pinned (OpenSpec.upto fnOIDFiltersWriteSpec)

end Rows
end Go.Proofs.YtfelfjdgmjapnaaDoor
