/-
  NARROWER THAN 'FOR EVERY INPUT', by the rows' own cells (each row's printed sentence says how): FnHeaderBack: laid · FnServerKeyEcdheWrite: laid · FnCertificateVerifyWrite: laid · FnServerKeyBothBack: laid · FnSchemes: laid.
  DERIVED. THE GIVEN ROWS OF THIS SEAT. 5 by the template 'for every input the law returns true; each argument reads behind the call as it read before'; 0 by the template 'total and deterministic' (their statements: YtmappdbodnlepaaDoorTotals.lean).
  GIVEN WITH THE SEED: the statements are not yours to turn. If you find one false, say at which input.
  Laid BY PROGRAM, IN A SANDBOX (cutbox-rows.mjs): the forced cells as the released guide's own fill.sh prints them over the translation 087aa3078d1806e4… (all of the seat's roots in one cut). By AI agents, Wed Nov 11 2026. No macro, syntax, notation, axiom, sorry.
-/
import Derived.Test.YtmappdbodnlepaaDoorChecked
import GoSem.Claim
import GoSem.ClaimJoined
import GoSem.ClaimMapViews
import Derived.JoinedTies
import Derived.KernelRfl
namespace Go.Proofs.YtmappdbodnlepaaDoor
/- THE CELL 'sum', in the pinned program and in every row, IS THE sha256 OF THE DUMP (.gsa) THAT YtmappdbodnlepaaDoorProg.lean LOADS. Nothing in Lean hashes anything: it is a label: what it is worth is what the hold of that sum in a sandbox is worth. -/
noncomputable def Tryd.pinned : Pinned := { name := "ytmappdbodnlepaadoor", sum := "087aa3078d1806e43e1064c86c18506e03b043f5312a164064d5e0fa82300989", checked := Tryd.checked }
namespace Rows
def none {H : Type} : Left H := { results := [], args := [] }

/- WHAT THE LISTED PACKAGE-LEVEL VARIABLES READ AS WHEN THE CALL BEGINS. Each datum BY PROGRAM (the guide's laid-datum.mjs) off the statement by which the dump's own 'gosem.cut.vars' lays the variable. In a bare row this is a premise. The card (YtmappdbodnlepaaDoorCards.lean) ties it to the program's text. -/
def laid_pub_convoy_pub_dtls_pkg_protocol_Version1_0 {H : Type} : DataW H := .agg [.lit (.int .u8 254), .lit (.int .u8 255)]
def laid_pub_convoy_pub_dtls_pkg_protocol_Version1_2 {H : Type} : DataW H := .agg [.lit (.int .u8 254), .lit (.int .u8 253)]
def laid_pub_convoy_pub_dtls_pkg_protocol_recordlayer_errBufferTooSmall {H : Type} : DataW H := .iface "*errors.errorString" (.ptr (.agg [.lit (.string [98, 117, 102, 102, 101, 114, 32, 105, 115, 32, 116, 111, 111, 32, 115, 109, 97, 108, 108])]))
def laid_pub_convoy_pub_dtls_pkg_protocol_recordlayer_errSequenceNumberOverflow {H : Type} : DataW H := .iface "*errors.errorString" (.ptr (.agg [.lit (.string [115, 101, 113, 117, 101, 110, 99, 101, 32, 110, 117, 109, 98, 101, 114, 32, 111, 118, 101, 114, 102, 108, 111, 119])]))
def laid_pub_convoy_pub_dtls_pkg_protocol_recordlayer_errUnsupportedProtocolVersion {H : Type} : DataW H := .iface "*errors.errorString" (.ptr (.agg [.lit (.string [117, 110, 115, 117, 112, 112, 111, 114, 116, 101, 100, 32, 112, 114, 111, 116, 111, 99, 111, 108, 32, 118, 101, 114, 115, 105, 111, 110])]))
def laid_pub_convoy_pub_dtls_pkg_protocol_handshake_errInvalidSignHashAlgorithm {H : Type} : DataW H := .iface "*errors.errorString" (.ptr (.agg [.lit (.string [105, 110, 118, 97, 108, 105, 100, 32, 115, 105, 103, 110, 97, 116, 117, 114, 101, 47, 104, 97, 115, 104, 32, 97, 108, 103, 111, 114, 105, 116, 104, 109])]))
def laid_pub_convoy_pub_dtls_pkg_crypto_signaturehash_errInvalidSignatureAlgorithm {H : Type} : DataW H := .iface "*errors.errorString" (.ptr (.agg [.lit (.string [105, 110, 118, 97, 108, 105, 100, 32, 115, 105, 103, 110, 97, 116, 117, 114, 101, 32, 97, 108, 103, 111, 114, 105, 116, 104, 109])]))
def laid_pub_convoy_pub_dtls_pkg_crypto_signaturehash_errInvalidHashAlgorithm {H : Type} : DataW H := .iface "*errors.errorString" (.ptr (.agg [.lit (.string [105, 110, 118, 97, 108, 105, 100, 32, 104, 97, 115, 104, 32, 97, 108, 103, 111, 114, 105, 116, 104, 109])]))
def laid_pub_convoy_pub_dtls_pkg_protocol_handshake_errBufferTooSmall {H : Type} : DataW H := .iface "*errors.errorString" (.ptr (.agg [.lit (.string [98, 117, 102, 102, 101, 114, 32, 105, 115, 32, 116, 111, 111, 32, 115, 109, 97, 108, 108])]))
def laid_pub_convoy_pub_dtls_pkg_protocol_handshake_errLengthMismatch {H : Type} : DataW H := .iface "*errors.errorString" (.ptr (.agg [.lit (.string [100, 97, 116, 97, 32, 108, 101, 110, 103, 116, 104, 32, 97, 110, 100, 32, 100, 101, 99, 108, 97, 114, 101, 100, 32, 108, 101, 110, 103, 116, 104, 32, 100, 111, 32, 110, 111, 116, 32, 109, 97, 116, 99, 104])]))
def laid_pub_convoy_pub_dtls_pkg_protocol_handshake_errInvalidEllipticCurveType {H : Type} : DataW H := .iface "*errors.errorString" (.ptr (.agg [.lit (.string [105, 110, 118, 97, 108, 105, 100, 32, 111, 114, 32, 117, 110, 107, 110, 111, 119, 110, 32, 101, 108, 108, 105, 112, 116, 105, 99, 32, 99, 117, 114, 118, 101, 32, 116, 121, 112, 101])]))
def laid_pub_convoy_pub_dtls_pkg_protocol_handshake_errInvalidNamedCurve {H : Type} : DataW H := .iface "*errors.errorString" (.ptr (.agg [.lit (.string [105, 110, 118, 97, 108, 105, 100, 32, 110, 97, 109, 101, 100, 32, 99, 117, 114, 118, 101])]))
def laid_pub_convoy_pub_dtls_pkg_protocol_handshake_errCipherSuiteUnset {H : Type} : DataW H := .iface "*errors.errorString" (.ptr (.agg [.lit (.string [115, 101, 114, 118, 101, 114, 32, 104, 101, 108, 108, 111, 32, 99, 97, 110, 32, 110, 111, 116, 32, 98, 101, 32, 99, 114, 101, 97, 116, 101, 100, 32, 119, 105, 116, 104, 111, 117, 116, 32, 97, 32, 99, 105, 112, 104, 101, 114, 32, 115, 117, 105, 116, 101])]))

/-- 'laws.FnHeaderBack': WHATEVER THE INPUT: true; the input reads as it did. -/
def fnHeaderBackSpec : ChangeSpec := { name := "fnHeaderBack", fn := fun _ => fun
  | [d1, d2] => { results := [.lit (.bool true)], args := [d1, d2] }
  | _ => none }
def fnHeaderBackRow : OpenClaim := { program := "ytmappdbodnlepaadoor", sum := "087aa3078d1806e43e1064c86c18506e03b043f5312a164064d5e0fa82300989", func := "pub-convoy/laws.FnHeaderBack", spec := "fnHeaderBack", named := ["pub-convoy/pub/dtls/pkg/protocol/recordlayer.errSequenceNumberOverflow", "encoding/binary.BigEndian", "pub-convoy/pub/dtls/pkg/protocol/recordlayer.errBufferTooSmall", "pub-convoy/pub/dtls/pkg/protocol.Version1_0", "pub-convoy/pub/dtls/pkg/protocol.Version1_2", "pub-convoy/pub/dtls/pkg/protocol/recordlayer.errUnsupportedProtocolVersion"], apart := false, laid := [("pub-convoy/pub/dtls/pkg/protocol.Version1_0", laid_pub_convoy_pub_dtls_pkg_protocol_Version1_0), ("pub-convoy/pub/dtls/pkg/protocol.Version1_2", laid_pub_convoy_pub_dtls_pkg_protocol_Version1_2), ("pub-convoy/pub/dtls/pkg/protocol/recordlayer.errBufferTooSmall", laid_pub_convoy_pub_dtls_pkg_protocol_recordlayer_errBufferTooSmall), ("pub-convoy/pub/dtls/pkg/protocol/recordlayer.errSequenceNumberOverflow", laid_pub_convoy_pub_dtls_pkg_protocol_recordlayer_errSequenceNumberOverflow), ("pub-convoy/pub/dtls/pkg/protocol/recordlayer.errUnsupportedProtocolVersion", laid_pub_convoy_pub_dtls_pkg_protocol_recordlayer_errUnsupportedProtocolVersion)] }
def FnHeaderBackSaid : Prop := fnHeaderBackRow.holds Tryd.pinned (OpenSpec.ofChange fnHeaderBackSpec)

/-- ITS FALSE NEIGHBOUR: 'it returns false'. Refute it at one input. -/
def fnHeaderBackWrong : ChangeSpec := { name := "fnHeaderBack", fn := fun _ => fun
  | [d1, d2] => { results := [.lit (.bool false)], args := [d1, d2] }
  | _ => none }
def FnHeaderBackWrongFalsely : Prop := fnHeaderBackRow.holds Tryd.pinned (OpenSpec.ofChange fnHeaderBackWrong)

/-- 'laws.FnServerKeyEcdheWrite': WHATEVER THE INPUT: true; the input reads as it did. -/
def fnServerKeyEcdheWriteSpec : ChangeSpec := { name := "fnServerKeyEcdheWrite", fn := fun _ => fun
  | [d1, d2, d3, d4] => { results := [.lit (.bool true)], args := [d1, d2, d3, d4] }
  | _ => none }
def fnServerKeyEcdheWriteRow : OpenClaim := { program := "ytmappdbodnlepaadoor", sum := "087aa3078d1806e43e1064c86c18506e03b043f5312a164064d5e0fa82300989", func := "pub-convoy/laws.FnServerKeyEcdheWrite", spec := "fnServerKeyEcdheWrite", named := ["encoding/binary.BigEndian", "pub-convoy/pub/dtls/pkg/protocol/handshake.errInvalidSignHashAlgorithm"], apart := false, laid := [("pub-convoy/pub/dtls/pkg/protocol/handshake.errInvalidSignHashAlgorithm", laid_pub_convoy_pub_dtls_pkg_protocol_handshake_errInvalidSignHashAlgorithm)] }
def FnServerKeyEcdheWriteSaid : Prop := fnServerKeyEcdheWriteRow.holds Tryd.pinned (OpenSpec.ofChange fnServerKeyEcdheWriteSpec)

/-- ITS FALSE NEIGHBOUR: 'it returns false'. Refute it at one input. -/
def fnServerKeyEcdheWriteWrong : ChangeSpec := { name := "fnServerKeyEcdheWrite", fn := fun _ => fun
  | [d1, d2, d3, d4] => { results := [.lit (.bool false)], args := [d1, d2, d3, d4] }
  | _ => none }
def FnServerKeyEcdheWriteWrongFalsely : Prop := fnServerKeyEcdheWriteRow.holds Tryd.pinned (OpenSpec.ofChange fnServerKeyEcdheWriteWrong)

/-- 'laws.FnCertificateVerifyWrite': WHATEVER THE INPUT: true; the input reads as it did. -/
def fnCertificateVerifyWriteSpec : ChangeSpec := { name := "fnCertificateVerifyWrite", fn := fun _ => fun
  | [d1, d2] => { results := [.lit (.bool true)], args := [d1, d2] }
  | _ => none }
def fnCertificateVerifyWriteRow : OpenClaim := { program := "ytmappdbodnlepaadoor", sum := "087aa3078d1806e43e1064c86c18506e03b043f5312a164064d5e0fa82300989", func := "pub-convoy/laws.FnCertificateVerifyWrite", spec := "fnCertificateVerifyWrite", named := ["pub-convoy/pub/dtls/pkg/protocol/handshake.errInvalidSignHashAlgorithm", "encoding/binary.BigEndian", "pub-convoy/pub/dtls/pkg/crypto/signaturehash.errInvalidHashAlgorithm", "pub-convoy/pub/dtls/pkg/crypto/signaturehash.errInvalidSignatureAlgorithm"], apart := false, laid := [("pub-convoy/pub/dtls/pkg/crypto/signaturehash.errInvalidSignatureAlgorithm", laid_pub_convoy_pub_dtls_pkg_crypto_signaturehash_errInvalidSignatureAlgorithm), ("pub-convoy/pub/dtls/pkg/crypto/signaturehash.errInvalidHashAlgorithm", laid_pub_convoy_pub_dtls_pkg_crypto_signaturehash_errInvalidHashAlgorithm), ("pub-convoy/pub/dtls/pkg/protocol/handshake.errInvalidSignHashAlgorithm", laid_pub_convoy_pub_dtls_pkg_protocol_handshake_errInvalidSignHashAlgorithm)] }
def FnCertificateVerifyWriteSaid : Prop := fnCertificateVerifyWriteRow.holds Tryd.pinned (OpenSpec.ofChange fnCertificateVerifyWriteSpec)

/-- ITS FALSE NEIGHBOUR: 'it returns false'. Refute it at one input. -/
def fnCertificateVerifyWriteWrong : ChangeSpec := { name := "fnCertificateVerifyWrite", fn := fun _ => fun
  | [d1, d2] => { results := [.lit (.bool false)], args := [d1, d2] }
  | _ => none }
def FnCertificateVerifyWriteWrongFalsely : Prop := fnCertificateVerifyWriteRow.holds Tryd.pinned (OpenSpec.ofChange fnCertificateVerifyWriteWrong)

/-- 'laws.FnServerKeyBothBack': WHATEVER THE INPUT: true; the input reads as it did. -/
def fnServerKeyBothBackSpec : ChangeSpec := { name := "fnServerKeyBothBack", fn := fun _ => fun
  | [d1, d2, d3] => { results := [.lit (.bool true)], args := [d1, d2, d3] }
  | _ => none }
def fnServerKeyBothBackRow : OpenClaim := { program := "ytmappdbodnlepaadoor", sum := "087aa3078d1806e43e1064c86c18506e03b043f5312a164064d5e0fa82300989", func := "pub-convoy/laws.FnServerKeyBothBack", spec := "fnServerKeyBothBack", unfollowed := true, recurses := true, named := ["pub-convoy/pub/dtls/pkg/protocol/handshake.errBufferTooSmall", "pub-convoy/pub/dtls/pkg/protocol/handshake.errCipherSuiteUnset", "encoding/binary.BigEndian", "pub-convoy/pub/dtls/pkg/protocol/handshake.errLengthMismatch", "pub-convoy/pub/dtls/pkg/protocol/handshake.errInvalidEllipticCurveType", "pub-convoy/pub/dtls/pkg/protocol/handshake.errInvalidNamedCurve", "pub-convoy/pub/dtls/pkg/protocol/handshake.errInvalidSignHashAlgorithm", "pub-convoy/pub/dtls/pkg/crypto/signaturehash.errInvalidHashAlgorithm", "pub-convoy/pub/dtls/pkg/crypto/signaturehash.errInvalidSignatureAlgorithm"], apart := false, laid := [("pub-convoy/pub/dtls/pkg/crypto/signaturehash.errInvalidSignatureAlgorithm", laid_pub_convoy_pub_dtls_pkg_crypto_signaturehash_errInvalidSignatureAlgorithm), ("pub-convoy/pub/dtls/pkg/crypto/signaturehash.errInvalidHashAlgorithm", laid_pub_convoy_pub_dtls_pkg_crypto_signaturehash_errInvalidHashAlgorithm), ("pub-convoy/pub/dtls/pkg/protocol/handshake.errBufferTooSmall", laid_pub_convoy_pub_dtls_pkg_protocol_handshake_errBufferTooSmall), ("pub-convoy/pub/dtls/pkg/protocol/handshake.errLengthMismatch", laid_pub_convoy_pub_dtls_pkg_protocol_handshake_errLengthMismatch), ("pub-convoy/pub/dtls/pkg/protocol/handshake.errInvalidSignHashAlgorithm", laid_pub_convoy_pub_dtls_pkg_protocol_handshake_errInvalidSignHashAlgorithm), ("pub-convoy/pub/dtls/pkg/protocol/handshake.errInvalidEllipticCurveType", laid_pub_convoy_pub_dtls_pkg_protocol_handshake_errInvalidEllipticCurveType), ("pub-convoy/pub/dtls/pkg/protocol/handshake.errInvalidNamedCurve", laid_pub_convoy_pub_dtls_pkg_protocol_handshake_errInvalidNamedCurve), ("pub-convoy/pub/dtls/pkg/protocol/handshake.errCipherSuiteUnset", laid_pub_convoy_pub_dtls_pkg_protocol_handshake_errCipherSuiteUnset)] }
def FnServerKeyBothBackSaid : Prop := fnServerKeyBothBackRow.holds Tryd.pinned (OpenSpec.ofChange fnServerKeyBothBackSpec)

/-- ITS FALSE NEIGHBOUR: 'it returns false'. Refute it at one input. -/
def fnServerKeyBothBackWrong : ChangeSpec := { name := "fnServerKeyBothBack", fn := fun _ => fun
  | [d1, d2, d3] => { results := [.lit (.bool false)], args := [d1, d2, d3] }
  | _ => none }
def FnServerKeyBothBackWrongFalsely : Prop := fnServerKeyBothBackRow.holds Tryd.pinned (OpenSpec.ofChange fnServerKeyBothBackWrong)

/-- 'laws.FnSchemes': WHATEVER THE INPUT: true; the input reads as it did. -/
def fnSchemesSpec : ChangeSpec := { name := "fnSchemes", fn := fun _ => fun
  | [] => { results := [.lit (.bool true)], args := [] }
  | _ => none }
def fnSchemesRow : OpenClaim := { program := "ytmappdbodnlepaadoor", sum := "087aa3078d1806e43e1064c86c18506e03b043f5312a164064d5e0fa82300989", func := "pub-convoy/laws.FnSchemes", spec := "fnSchemes", named := ["pub-convoy/pub/dtls/pkg/crypto/signaturehash.errInvalidHashAlgorithm", "pub-convoy/pub/dtls/pkg/crypto/signaturehash.errInvalidSignatureAlgorithm"], apart := false, laid := [("pub-convoy/pub/dtls/pkg/crypto/signaturehash.errInvalidSignatureAlgorithm", laid_pub_convoy_pub_dtls_pkg_crypto_signaturehash_errInvalidSignatureAlgorithm), ("pub-convoy/pub/dtls/pkg/crypto/signaturehash.errInvalidHashAlgorithm", laid_pub_convoy_pub_dtls_pkg_crypto_signaturehash_errInvalidHashAlgorithm)] }
def FnSchemesSaid : Prop := fnSchemesRow.holds Tryd.pinned (OpenSpec.ofChange fnSchemesSpec)

/-- ITS FALSE NEIGHBOUR: 'it returns false'. Refute it at one input. -/
def fnSchemesWrong : ChangeSpec := { name := "fnSchemes", fn := fun _ => fun
  | [] => { results := [.lit (.bool false)], args := [] }
  | _ => none }
def FnSchemesWrongFalsely : Prop := fnSchemesRow.holds Tryd.pinned (OpenSpec.ofChange fnSchemesWrong)

/- THE SECOND FORM. 'bulk': how many values and letters a reading holds, each counted each time it is reached (what is shared counts as often as it is met; a slice's spare places count too). A statement '..UptoSaid' is the law's where the arguments, and the package variables that the reading takes, are together of bulk at most 1048576: NARROWER than '..Said'. Prove '..Said' where nothing that the law and all that it calls make is longer than what came in: it says more and counts as full. Else prove '..UptoSaid'. A law counts once. -/
mutual
def uptoBulk {H : Type} : DataW H → Nat
  | .lit (.string bytes) => bytes.length + 1
  | .lit _ => 1
  | .nil => 1
  | .ptr d => uptoBulk d + 1
  | .slice elems spare => uptoBulkAll elems + uptoBulkAll spare + 1
  | .agg parts => uptoBulkAll parts + 1
  | .iface _ d => uptoBulk d + 1
  | .map entries => uptoBulkEntries entries + 1
  | .held _ => 1
def uptoBulkAll {H : Type} : List (DataW H) → Nat
  | [] => 0
  | d :: r => uptoBulk d + uptoBulkAll r
def uptoBulkEntries {H : Type} : List (Lit × DataW H) → Nat
  | [] => 0
  | x :: r => uptoBulkEntry x + uptoBulkEntries r
def uptoBulkEntry {H : Type} : Lit × DataW H → Nat
  | (.string bytes, d) => bytes.length + uptoBulk d + 1
  | (_, d) => uptoBulk d + 1
 end
def uptoSmall : (H : Type) → List (DataW H) → Bool := fun _ ds => decide (uptoBulkAll ds ≤ 1048576)
def OpenSpec.upto (s : _root_.Go.ChangeSpec) : _root_.Go.OpenSpec := { _root_.Go.OpenSpec.ofChange s with cond := some uptoSmall }

/-- 'laws.FnHeaderBack', WHERE WHAT IT READS IS OF BULK AT MOST 1048576: true; the input reads as it did. -/
def fnHeaderBackUptoRow : OpenClaim := { program := "ytmappdbodnlepaadoor", sum := "087aa3078d1806e43e1064c86c18506e03b043f5312a164064d5e0fa82300989", func := "pub-convoy/laws.FnHeaderBack", spec := "fnHeaderBack", named := ["pub-convoy/pub/dtls/pkg/protocol/recordlayer.errSequenceNumberOverflow", "encoding/binary.BigEndian", "pub-convoy/pub/dtls/pkg/protocol/recordlayer.errBufferTooSmall", "pub-convoy/pub/dtls/pkg/protocol.Version1_0", "pub-convoy/pub/dtls/pkg/protocol.Version1_2", "pub-convoy/pub/dtls/pkg/protocol/recordlayer.errUnsupportedProtocolVersion"], apart := false, laid := [("pub-convoy/pub/dtls/pkg/protocol.Version1_0", laid_pub_convoy_pub_dtls_pkg_protocol_Version1_0), ("pub-convoy/pub/dtls/pkg/protocol.Version1_2", laid_pub_convoy_pub_dtls_pkg_protocol_Version1_2), ("pub-convoy/pub/dtls/pkg/protocol/recordlayer.errBufferTooSmall", laid_pub_convoy_pub_dtls_pkg_protocol_recordlayer_errBufferTooSmall), ("pub-convoy/pub/dtls/pkg/protocol/recordlayer.errSequenceNumberOverflow", laid_pub_convoy_pub_dtls_pkg_protocol_recordlayer_errSequenceNumberOverflow), ("pub-convoy/pub/dtls/pkg/protocol/recordlayer.errUnsupportedProtocolVersion", laid_pub_convoy_pub_dtls_pkg_protocol_recordlayer_errUnsupportedProtocolVersion)], narrowed := true }
def FnHeaderBackUptoSaid : Prop := fnHeaderBackUptoRow.holds Tryd.pinned (OpenSpec.upto fnHeaderBackSpec)

/-- 'laws.FnServerKeyEcdheWrite', WHERE WHAT IT READS IS OF BULK AT MOST 1048576: true; the input reads as it did. -/
def fnServerKeyEcdheWriteUptoRow : OpenClaim := { program := "ytmappdbodnlepaadoor", sum := "087aa3078d1806e43e1064c86c18506e03b043f5312a164064d5e0fa82300989", func := "pub-convoy/laws.FnServerKeyEcdheWrite", spec := "fnServerKeyEcdheWrite", named := ["encoding/binary.BigEndian", "pub-convoy/pub/dtls/pkg/protocol/handshake.errInvalidSignHashAlgorithm"], apart := false, laid := [("pub-convoy/pub/dtls/pkg/protocol/handshake.errInvalidSignHashAlgorithm", laid_pub_convoy_pub_dtls_pkg_protocol_handshake_errInvalidSignHashAlgorithm)], narrowed := true }
def FnServerKeyEcdheWriteUptoSaid : Prop := fnServerKeyEcdheWriteUptoRow.holds Tryd.pinned (OpenSpec.upto fnServerKeyEcdheWriteSpec)

/-- 'laws.FnCertificateVerifyWrite', WHERE WHAT IT READS IS OF BULK AT MOST 1048576: true; the input reads as it did. -/
def fnCertificateVerifyWriteUptoRow : OpenClaim := { program := "ytmappdbodnlepaadoor", sum := "087aa3078d1806e43e1064c86c18506e03b043f5312a164064d5e0fa82300989", func := "pub-convoy/laws.FnCertificateVerifyWrite", spec := "fnCertificateVerifyWrite", named := ["pub-convoy/pub/dtls/pkg/protocol/handshake.errInvalidSignHashAlgorithm", "encoding/binary.BigEndian", "pub-convoy/pub/dtls/pkg/crypto/signaturehash.errInvalidHashAlgorithm", "pub-convoy/pub/dtls/pkg/crypto/signaturehash.errInvalidSignatureAlgorithm"], apart := false, laid := [("pub-convoy/pub/dtls/pkg/crypto/signaturehash.errInvalidSignatureAlgorithm", laid_pub_convoy_pub_dtls_pkg_crypto_signaturehash_errInvalidSignatureAlgorithm), ("pub-convoy/pub/dtls/pkg/crypto/signaturehash.errInvalidHashAlgorithm", laid_pub_convoy_pub_dtls_pkg_crypto_signaturehash_errInvalidHashAlgorithm), ("pub-convoy/pub/dtls/pkg/protocol/handshake.errInvalidSignHashAlgorithm", laid_pub_convoy_pub_dtls_pkg_protocol_handshake_errInvalidSignHashAlgorithm)], narrowed := true }
def FnCertificateVerifyWriteUptoSaid : Prop := fnCertificateVerifyWriteUptoRow.holds Tryd.pinned (OpenSpec.upto fnCertificateVerifyWriteSpec)

/-- 'laws.FnServerKeyBothBack', WHERE WHAT IT READS IS OF BULK AT MOST 1048576: true; the input reads as it did. -/
def fnServerKeyBothBackUptoRow : OpenClaim := { program := "ytmappdbodnlepaadoor", sum := "087aa3078d1806e43e1064c86c18506e03b043f5312a164064d5e0fa82300989", func := "pub-convoy/laws.FnServerKeyBothBack", spec := "fnServerKeyBothBack", unfollowed := true, recurses := true, named := ["pub-convoy/pub/dtls/pkg/protocol/handshake.errBufferTooSmall", "pub-convoy/pub/dtls/pkg/protocol/handshake.errCipherSuiteUnset", "encoding/binary.BigEndian", "pub-convoy/pub/dtls/pkg/protocol/handshake.errLengthMismatch", "pub-convoy/pub/dtls/pkg/protocol/handshake.errInvalidEllipticCurveType", "pub-convoy/pub/dtls/pkg/protocol/handshake.errInvalidNamedCurve", "pub-convoy/pub/dtls/pkg/protocol/handshake.errInvalidSignHashAlgorithm", "pub-convoy/pub/dtls/pkg/crypto/signaturehash.errInvalidHashAlgorithm", "pub-convoy/pub/dtls/pkg/crypto/signaturehash.errInvalidSignatureAlgorithm"], apart := false, laid := [("pub-convoy/pub/dtls/pkg/crypto/signaturehash.errInvalidSignatureAlgorithm", laid_pub_convoy_pub_dtls_pkg_crypto_signaturehash_errInvalidSignatureAlgorithm), ("pub-convoy/pub/dtls/pkg/crypto/signaturehash.errInvalidHashAlgorithm", laid_pub_convoy_pub_dtls_pkg_crypto_signaturehash_errInvalidHashAlgorithm), ("pub-convoy/pub/dtls/pkg/protocol/handshake.errBufferTooSmall", laid_pub_convoy_pub_dtls_pkg_protocol_handshake_errBufferTooSmall), ("pub-convoy/pub/dtls/pkg/protocol/handshake.errLengthMismatch", laid_pub_convoy_pub_dtls_pkg_protocol_handshake_errLengthMismatch), ("pub-convoy/pub/dtls/pkg/protocol/handshake.errInvalidSignHashAlgorithm", laid_pub_convoy_pub_dtls_pkg_protocol_handshake_errInvalidSignHashAlgorithm), ("pub-convoy/pub/dtls/pkg/protocol/handshake.errInvalidEllipticCurveType", laid_pub_convoy_pub_dtls_pkg_protocol_handshake_errInvalidEllipticCurveType), ("pub-convoy/pub/dtls/pkg/protocol/handshake.errInvalidNamedCurve", laid_pub_convoy_pub_dtls_pkg_protocol_handshake_errInvalidNamedCurve), ("pub-convoy/pub/dtls/pkg/protocol/handshake.errCipherSuiteUnset", laid_pub_convoy_pub_dtls_pkg_protocol_handshake_errCipherSuiteUnset)], narrowed := true }
def FnServerKeyBothBackUptoSaid : Prop := fnServerKeyBothBackUptoRow.holds Tryd.pinned (OpenSpec.upto fnServerKeyBothBackSpec)

/-- 'laws.FnSchemes', WHERE WHAT IT READS IS OF BULK AT MOST 1048576: true; the input reads as it did. -/
def fnSchemesUptoRow : OpenClaim := { program := "ytmappdbodnlepaadoor", sum := "087aa3078d1806e43e1064c86c18506e03b043f5312a164064d5e0fa82300989", func := "pub-convoy/laws.FnSchemes", spec := "fnSchemes", named := ["pub-convoy/pub/dtls/pkg/crypto/signaturehash.errInvalidHashAlgorithm", "pub-convoy/pub/dtls/pkg/crypto/signaturehash.errInvalidSignatureAlgorithm"], apart := false, laid := [("pub-convoy/pub/dtls/pkg/crypto/signaturehash.errInvalidSignatureAlgorithm", laid_pub_convoy_pub_dtls_pkg_crypto_signaturehash_errInvalidSignatureAlgorithm), ("pub-convoy/pub/dtls/pkg/crypto/signaturehash.errInvalidHashAlgorithm", laid_pub_convoy_pub_dtls_pkg_crypto_signaturehash_errInvalidHashAlgorithm)], narrowed := true }
def FnSchemesUptoSaid : Prop := fnSchemesUptoRow.holds Tryd.pinned (OpenSpec.upto fnSchemesSpec)

end Rows
end Go.Proofs.YtmappdbodnlepaaDoor
