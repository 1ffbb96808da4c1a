/-
  NARROWER THAN 'FOR EVERY INPUT', by the rows' own cells (each row's printed sentence says how): FnGroupsCut: laid · FnSRTPCut: laid · FnCookieCut: laid · FnEarlyDataBack: laid · FnPskModesCut: laid · FnConnectionIDBack: laid · FnServerNameBack: laid · FnSupportedVersionsCut: laid · FnKeyShareGroupBack: laid · FnSignatureAlgorithmsCertBack: laid · FnCertificateCut: laid · FnHandshakeHeaderRead: laid.
  DERIVED. THE GIVEN ROWS OF THIS SEAT. 12 by the template 'for every input the law returns true; each argument reads behind the call as it read before'; 0 by the template 'total and deterministic' (their statements: YtkjpkenhpmjikaaDoorTotals.lean).
  GIVEN WITH THE SEED: the statements are not yours to turn. If you find one false, say at which input.
  Laid BY PROGRAM, IN A SANDBOX (cutbox-rows.mjs): the forced cells as the released guide's own fill.sh prints them over the translation 07aee5a450cd94ce… (all of the seat's roots in one cut). By AI agents, Wed Nov 11 2026. No macro, syntax, notation, axiom, sorry.
-/
import Derived.Test.YtkjpkenhpmjikaaDoorChecked
import GoSem.Claim
import GoSem.ClaimJoined
import GoSem.ClaimMapViews
import Derived.JoinedTies
import Derived.KernelRfl
namespace Go.Proofs.YtkjpkenhpmjikaaDoor
/- THE CELL 'sum', in the pinned program and in every row, IS THE sha256 OF THE DUMP (.gsa) THAT YtkjpkenhpmjikaaDoorProg.lean LOADS. Nothing in Lean hashes anything: it is a label: what it is worth is what the hold of that sum in a sandbox is worth. -/
noncomputable def Tryd.pinned : Pinned := { name := "ytkjpkenhpmjikaadoor", sum := "07aee5a450cd94ceaddf4ccb89268724ecf501e94b3400e4f64312928498323c", checked := Tryd.checked }
namespace Rows
def none {H : Type} : Left H := { results := [], args := [] }

/- WHAT THE LISTED PACKAGE-LEVEL VARIABLES READ AS WHEN THE CALL BEGINS. Each datum BY PROGRAM (the guide's laid-datum.mjs) off the statement by which the dump's own 'gosem.cut.vars' lays the variable. In a bare row this is a premise. The card (YtkjpkenhpmjikaaDoorCards.lean) ties it to the program's text. -/
def laid_pub_convoy_pub_dtls_pkg_protocol_extension_errBufferTooSmall {H : Type} : DataW H := .iface "*errors.errorString" (.ptr (.agg [.lit (.string [98, 117, 102, 102, 101, 114, 32, 105, 115, 32, 116, 111, 111, 32, 115, 109, 97, 108, 108])]))
def laid_pub_convoy_pub_dtls_pkg_protocol_extension_errInvalidExtensionType {H : Type} : DataW H := .iface "*errors.errorString" (.ptr (.agg [.lit (.string [105, 110, 118, 97, 108, 105, 100, 32, 101, 120, 116, 101, 110, 115, 105, 111, 110, 32, 116, 121, 112, 101])]))
def laid_pub_convoy_pub_dtls_pkg_protocol_extension_errLengthMismatch {H : Type} : DataW H := .iface "*errors.errorString" (.ptr (.agg [.lit (.string [100, 97, 116, 97, 32, 108, 101, 110, 103, 116, 104, 32, 97, 110, 100, 32, 100, 101, 99, 108, 97, 114, 101, 100, 32, 108, 101, 110, 103, 116, 104, 32, 100, 111, 32, 110, 111, 116, 32, 109, 97, 116, 99, 104])]))
def laid_pub_convoy_pub_dtls_pkg_protocol_extension_errCookieExtFormat {H : Type} : DataW H := .iface "*errors.errorString" (.ptr (.agg [.lit (.string [105, 110, 118, 97, 108, 105, 100, 32, 99, 111, 111, 107, 105, 101, 32, 102, 111, 114, 109, 97, 116])]))
def laid_pub_convoy_pub_dtls_pkg_protocol_extension_errEarlyDataIndicationFormat {H : Type} : DataW H := .iface "*errors.errorString" (.ptr (.agg [.lit (.string [105, 110, 118, 97, 108, 105, 100, 32, 69, 97, 114, 108, 121, 32, 68, 97, 116, 97, 32, 73, 110, 100, 105, 99, 97, 116, 105, 111, 110, 32, 101, 120, 116, 101, 110, 115, 105, 111, 110, 32, 102, 111, 114, 109, 97, 116])]))
def laid_pub_convoy_pub_dtls_pkg_protocol_extension_errPskKeyExchangeModesFormat {H : Type} : DataW H := .iface "*errors.errorString" (.ptr (.agg [.lit (.string [105, 110, 118, 97, 108, 105, 100, 32, 80, 114, 101, 45, 83, 104, 97, 114, 101, 100, 32, 75, 101, 121, 32, 69, 120, 99, 104, 97, 110, 103, 101, 32, 77, 111, 100, 101, 115, 32, 101, 120, 116, 101, 110, 115, 105, 111, 110, 32, 102, 111, 114, 109, 97, 116])]))
def laid_pub_convoy_pub_dtls_pkg_protocol_extension_errInvalidCIDFormat {H : Type} : DataW H := .iface "*errors.errorString" (.ptr (.agg [.lit (.string [105, 110, 118, 97, 108, 105, 100, 32, 99, 111, 110, 110, 101, 99, 116, 105, 111, 110, 32, 73, 68, 32, 102, 111, 114, 109, 97, 116])]))
def laid_pub_convoy_pub_dtls_pkg_protocol_extension_errInvalidSNIFormat {H : Type} : DataW H := .iface "*errors.errorString" (.ptr (.agg [.lit (.string [105, 110, 118, 97, 108, 105, 100, 32, 115, 101, 114, 118, 101, 114, 32, 110, 97, 109, 101, 32, 102, 111, 114, 109, 97, 116])]))
def laid_pub_convoy_pub_dtls_pkg_protocol_extension_errInvalidSupportedVersionsFormat {H : Type} : DataW H := .iface "*errors.errorString" (.ptr (.agg [.lit (.string [105, 110, 118, 97, 108, 105, 100, 32, 115, 117, 112, 112, 111, 114, 116, 101, 100, 95, 118, 101, 114, 115, 105, 111, 110, 115, 32, 102, 111, 114, 109, 97, 116])]))
def laid_pub_convoy_pub_dtls_pkg_protocol_extension_errInvalidKeyShareFormat {H : Type} : DataW H := .iface "*errors.errorString" (.ptr (.agg [.lit (.string [105, 110, 118, 97, 108, 105, 100, 32, 107, 101, 121, 95, 115, 104, 97, 114, 101, 32, 102, 111, 114, 109, 97, 116])]))
def laid_pub_convoy_pub_dtls_pkg_protocol_extension_errDuplicateKeyShare {H : Type} : DataW H := .iface "*errors.errorString" (.ptr (.agg [.lit (.string [100, 117, 112, 108, 105, 99, 97, 116, 101, 32, 107, 101, 121, 95, 115, 104, 97, 114, 101, 32, 103, 114, 111, 117, 112])]))
def laid_pub_convoy_pub_dtls_pkg_crypto_signaturehash_errInvalidSignatureAlgorithm {H : Type} : DataW H := .iface "*errors.errorString" (.ptr (.agg [.lit (.string [105, 110, 118, 97, 108, 105, 100, 32, 115, 105, 103, 110, 97, 116, 117, 114, 101, 32, 97, 108, 103, 111, 114, 105, 116, 104, 109])]))
def laid_pub_convoy_pub_dtls_pkg_crypto_signaturehash_errInvalidHashAlgorithm {H : Type} : DataW H := .iface "*errors.errorString" (.ptr (.agg [.lit (.string [105, 110, 118, 97, 108, 105, 100, 32, 104, 97, 115, 104, 32, 97, 108, 103, 111, 114, 105, 116, 104, 109])]))
def laid_pub_convoy_pub_dtls_pkg_protocol_handshake_errBufferTooSmall {H : Type} : DataW H := .iface "*errors.errorString" (.ptr (.agg [.lit (.string [98, 117, 102, 102, 101, 114, 32, 105, 115, 32, 116, 111, 111, 32, 115, 109, 97, 108, 108])]))
def laid_pub_convoy_pub_dtls_pkg_protocol_handshake_errLengthMismatch {H : Type} : DataW H := .iface "*errors.errorString" (.ptr (.agg [.lit (.string [100, 97, 116, 97, 32, 108, 101, 110, 103, 116, 104, 32, 97, 110, 100, 32, 100, 101, 99, 108, 97, 114, 101, 100, 32, 108, 101, 110, 103, 116, 104, 32, 100, 111, 32, 110, 111, 116, 32, 109, 97, 116, 99, 104])]))

/-- 'laws.FnGroupsCut': WHATEVER THE INPUT: true; the input reads as it did. -/
def fnGroupsCutSpec : ChangeSpec := { name := "fnGroupsCut", fn := fun _ => fun
  | [d1, d2] => { results := [.lit (.bool true)], args := [d1, d2] }
  | _ => none }
def fnGroupsCutRow : OpenClaim := { program := "ytkjpkenhpmjikaadoor", sum := "07aee5a450cd94ceaddf4ccb89268724ecf501e94b3400e4f64312928498323c", func := "pub-convoy/laws.FnGroupsCut", spec := "fnGroupsCut", named := ["pub-convoy/pub/dtls/pkg/protocol/extension.errBufferTooSmall", "encoding/binary.BigEndian", "pub-convoy/pub/dtls/pkg/protocol/extension.errInvalidExtensionType", "pub-convoy/pub/dtls/pkg/protocol/extension.errLengthMismatch"], apart := false, laid := [("pub-convoy/pub/dtls/pkg/protocol/extension.errBufferTooSmall", laid_pub_convoy_pub_dtls_pkg_protocol_extension_errBufferTooSmall), ("pub-convoy/pub/dtls/pkg/protocol/extension.errInvalidExtensionType", laid_pub_convoy_pub_dtls_pkg_protocol_extension_errInvalidExtensionType), ("pub-convoy/pub/dtls/pkg/protocol/extension.errLengthMismatch", laid_pub_convoy_pub_dtls_pkg_protocol_extension_errLengthMismatch)] }
def FnGroupsCutSaid : Prop := fnGroupsCutRow.holds Tryd.pinned (OpenSpec.ofChange fnGroupsCutSpec)

/-- ITS FALSE NEIGHBOUR: 'it returns false'. Refute it at one input. -/
def fnGroupsCutWrong : ChangeSpec := { name := "fnGroupsCut", fn := fun _ => fun
  | [d1, d2] => { results := [.lit (.bool false)], args := [d1, d2] }
  | _ => none }
def FnGroupsCutWrongFalsely : Prop := fnGroupsCutRow.holds Tryd.pinned (OpenSpec.ofChange fnGroupsCutWrong)

/-- 'laws.FnSRTPCut': WHATEVER THE INPUT: true; the input reads as it did. -/
def fnSRTPCutSpec : ChangeSpec := { name := "fnSRTPCut", fn := fun _ => fun
  | [d1, d2, d3] => { results := [.lit (.bool true)], args := [d1, d2, d3] }
  | _ => none }
def fnSRTPCutRow : OpenClaim := { program := "ytkjpkenhpmjikaadoor", sum := "07aee5a450cd94ceaddf4ccb89268724ecf501e94b3400e4f64312928498323c", func := "pub-convoy/laws.FnSRTPCut", spec := "fnSRTPCut", named := ["pub-convoy/pub/dtls/pkg/protocol/extension.errBufferTooSmall", "encoding/binary.BigEndian", "pub-convoy/pub/dtls/pkg/protocol/extension.errInvalidExtensionType", "pub-convoy/pub/dtls/pkg/protocol/extension.errLengthMismatch"], apart := false, laid := [("pub-convoy/pub/dtls/pkg/protocol/extension.errBufferTooSmall", laid_pub_convoy_pub_dtls_pkg_protocol_extension_errBufferTooSmall), ("pub-convoy/pub/dtls/pkg/protocol/extension.errInvalidExtensionType", laid_pub_convoy_pub_dtls_pkg_protocol_extension_errInvalidExtensionType), ("pub-convoy/pub/dtls/pkg/protocol/extension.errLengthMismatch", laid_pub_convoy_pub_dtls_pkg_protocol_extension_errLengthMismatch)] }
def FnSRTPCutSaid : Prop := fnSRTPCutRow.holds Tryd.pinned (OpenSpec.ofChange fnSRTPCutSpec)

/-- ITS FALSE NEIGHBOUR: 'it returns false'. Refute it at one input. -/
def fnSRTPCutWrong : ChangeSpec := { name := "fnSRTPCut", fn := fun _ => fun
  | [d1, d2, d3] => { results := [.lit (.bool false)], args := [d1, d2, d3] }
  | _ => none }
def FnSRTPCutWrongFalsely : Prop := fnSRTPCutRow.holds Tryd.pinned (OpenSpec.ofChange fnSRTPCutWrong)

/-- 'laws.FnCookieCut': WHATEVER THE INPUT: true; the input reads as it did. -/
def fnCookieCutSpec : ChangeSpec := { name := "fnCookieCut", fn := fun _ => fun
  | [d1, d2] => { results := [.lit (.bool true)], args := [d1, d2] }
  | _ => none }
def fnCookieCutRow : OpenClaim := { program := "ytkjpkenhpmjikaadoor", sum := "07aee5a450cd94ceaddf4ccb89268724ecf501e94b3400e4f64312928498323c", func := "pub-convoy/laws.FnCookieCut", spec := "fnCookieCut", named := ["pub-convoy/pub/dtls/pkg/protocol/extension.errInvalidExtensionType", "pub-convoy/pub/dtls/pkg/protocol/extension.errBufferTooSmall", "pub-convoy/pub/dtls/pkg/protocol/extension.errCookieExtFormat", "pub-convoy/pub/dtls/pkg/protocol/extension.errLengthMismatch"], apart := false, laid := [("pub-convoy/pub/dtls/pkg/protocol/extension.errBufferTooSmall", laid_pub_convoy_pub_dtls_pkg_protocol_extension_errBufferTooSmall), ("pub-convoy/pub/dtls/pkg/protocol/extension.errInvalidExtensionType", laid_pub_convoy_pub_dtls_pkg_protocol_extension_errInvalidExtensionType), ("pub-convoy/pub/dtls/pkg/protocol/extension.errLengthMismatch", laid_pub_convoy_pub_dtls_pkg_protocol_extension_errLengthMismatch), ("pub-convoy/pub/dtls/pkg/protocol/extension.errCookieExtFormat", laid_pub_convoy_pub_dtls_pkg_protocol_extension_errCookieExtFormat)] }
def FnCookieCutSaid : Prop := fnCookieCutRow.holds Tryd.pinned (OpenSpec.ofChange fnCookieCutSpec)

/-- ITS FALSE NEIGHBOUR: 'it returns false'. Refute it at one input. -/
def fnCookieCutWrong : ChangeSpec := { name := "fnCookieCut", fn := fun _ => fun
  | [d1, d2] => { results := [.lit (.bool false)], args := [d1, d2] }
  | _ => none }
def FnCookieCutWrongFalsely : Prop := fnCookieCutRow.holds Tryd.pinned (OpenSpec.ofChange fnCookieCutWrong)

/-- 'laws.FnEarlyDataBack': WHATEVER THE INPUT: true; the input reads as it did. -/
def fnEarlyDataBackSpec : ChangeSpec := { name := "fnEarlyDataBack", fn := fun _ => fun
  | [d1, d2] => { results := [.lit (.bool true)], args := [d1, d2] }
  | _ => none }
def fnEarlyDataBackRow : OpenClaim := { program := "ytkjpkenhpmjikaadoor", sum := "07aee5a450cd94ceaddf4ccb89268724ecf501e94b3400e4f64312928498323c", func := "pub-convoy/laws.FnEarlyDataBack", spec := "fnEarlyDataBack", unfollowed := true, recurses := true, named := ["pub-convoy/pub/dtls/pkg/protocol/extension.errInvalidExtensionType", "pub-convoy/pub/dtls/pkg/protocol/extension.errBufferTooSmall", "pub-convoy/pub/dtls/pkg/protocol/extension.errEarlyDataIndicationFormat"], apart := false, laid := [("pub-convoy/pub/dtls/pkg/protocol/extension.errBufferTooSmall", laid_pub_convoy_pub_dtls_pkg_protocol_extension_errBufferTooSmall), ("pub-convoy/pub/dtls/pkg/protocol/extension.errInvalidExtensionType", laid_pub_convoy_pub_dtls_pkg_protocol_extension_errInvalidExtensionType), ("pub-convoy/pub/dtls/pkg/protocol/extension.errEarlyDataIndicationFormat", laid_pub_convoy_pub_dtls_pkg_protocol_extension_errEarlyDataIndicationFormat)] }
def FnEarlyDataBackSaid : Prop := fnEarlyDataBackRow.holds Tryd.pinned (OpenSpec.ofChange fnEarlyDataBackSpec)

/-- ITS FALSE NEIGHBOUR: 'it returns false'. Refute it at one input. -/
def fnEarlyDataBackWrong : ChangeSpec := { name := "fnEarlyDataBack", fn := fun _ => fun
  | [d1, d2] => { results := [.lit (.bool false)], args := [d1, d2] }
  | _ => none }
def FnEarlyDataBackWrongFalsely : Prop := fnEarlyDataBackRow.holds Tryd.pinned (OpenSpec.ofChange fnEarlyDataBackWrong)

/-- 'laws.FnPskModesCut': WHATEVER THE INPUT: true; the input reads as it did. -/
def fnPskModesCutSpec : ChangeSpec := { name := "fnPskModesCut", fn := fun _ => fun
  | [d1, d2] => { results := [.lit (.bool true)], args := [d1, d2] }
  | _ => none }
def fnPskModesCutRow : OpenClaim := { program := "ytkjpkenhpmjikaadoor", sum := "07aee5a450cd94ceaddf4ccb89268724ecf501e94b3400e4f64312928498323c", func := "pub-convoy/laws.FnPskModesCut", spec := "fnPskModesCut", named := ["pub-convoy/pub/dtls/pkg/protocol/extension.errInvalidExtensionType", "pub-convoy/pub/dtls/pkg/protocol/extension.errBufferTooSmall", "pub-convoy/pub/dtls/pkg/protocol/extension.errPskKeyExchangeModesFormat", "pub-convoy/pub/dtls/pkg/protocol/extension.errLengthMismatch"], apart := false, laid := [("pub-convoy/pub/dtls/pkg/protocol/extension.errBufferTooSmall", laid_pub_convoy_pub_dtls_pkg_protocol_extension_errBufferTooSmall), ("pub-convoy/pub/dtls/pkg/protocol/extension.errInvalidExtensionType", laid_pub_convoy_pub_dtls_pkg_protocol_extension_errInvalidExtensionType), ("pub-convoy/pub/dtls/pkg/protocol/extension.errLengthMismatch", laid_pub_convoy_pub_dtls_pkg_protocol_extension_errLengthMismatch), ("pub-convoy/pub/dtls/pkg/protocol/extension.errPskKeyExchangeModesFormat", laid_pub_convoy_pub_dtls_pkg_protocol_extension_errPskKeyExchangeModesFormat)] }
def FnPskModesCutSaid : Prop := fnPskModesCutRow.holds Tryd.pinned (OpenSpec.ofChange fnPskModesCutSpec)

/-- ITS FALSE NEIGHBOUR: 'it returns false'. Refute it at one input. -/
def fnPskModesCutWrong : ChangeSpec := { name := "fnPskModesCut", fn := fun _ => fun
  | [d1, d2] => { results := [.lit (.bool false)], args := [d1, d2] }
  | _ => none }
def FnPskModesCutWrongFalsely : Prop := fnPskModesCutRow.holds Tryd.pinned (OpenSpec.ofChange fnPskModesCutWrong)

/-- 'laws.FnConnectionIDBack': WHATEVER THE INPUT: true; the input reads as it did. -/
def fnConnectionIDBackSpec : ChangeSpec := { name := "fnConnectionIDBack", fn := fun _ => fun
  | [d] => { results := [.lit (.bool true)], args := [d] }
  | _ => none }
def fnConnectionIDBackRow : OpenClaim := { program := "ytkjpkenhpmjikaadoor", sum := "07aee5a450cd94ceaddf4ccb89268724ecf501e94b3400e4f64312928498323c", func := "pub-convoy/laws.FnConnectionIDBack", spec := "fnConnectionIDBack", unfollowed := true, recurses := true, named := ["pub-convoy/pub/dtls/pkg/protocol/extension.errInvalidExtensionType", "pub-convoy/pub/dtls/pkg/protocol/extension.errBufferTooSmall", "pub-convoy/pub/dtls/pkg/protocol/extension.errInvalidCIDFormat", "pub-convoy/pub/dtls/pkg/protocol/extension.errLengthMismatch"], apart := false, laid := [("pub-convoy/pub/dtls/pkg/protocol/extension.errBufferTooSmall", laid_pub_convoy_pub_dtls_pkg_protocol_extension_errBufferTooSmall), ("pub-convoy/pub/dtls/pkg/protocol/extension.errInvalidExtensionType", laid_pub_convoy_pub_dtls_pkg_protocol_extension_errInvalidExtensionType), ("pub-convoy/pub/dtls/pkg/protocol/extension.errInvalidCIDFormat", laid_pub_convoy_pub_dtls_pkg_protocol_extension_errInvalidCIDFormat), ("pub-convoy/pub/dtls/pkg/protocol/extension.errLengthMismatch", laid_pub_convoy_pub_dtls_pkg_protocol_extension_errLengthMismatch)] }
def FnConnectionIDBackSaid : Prop := fnConnectionIDBackRow.holds Tryd.pinned (OpenSpec.ofChange fnConnectionIDBackSpec)

/-- ITS FALSE NEIGHBOUR: 'it returns false'. Refute it at one input. -/
def fnConnectionIDBackWrong : ChangeSpec := { name := "fnConnectionIDBack", fn := fun _ => fun
  | [d] => { results := [.lit (.bool false)], args := [d] }
  | _ => none }
def FnConnectionIDBackWrongFalsely : Prop := fnConnectionIDBackRow.holds Tryd.pinned (OpenSpec.ofChange fnConnectionIDBackWrong)

/-- 'laws.FnServerNameBack': WHATEVER THE INPUT: true; the input reads as it did. -/
def fnServerNameBackSpec : ChangeSpec := { name := "fnServerNameBack", fn := fun _ => fun
  | [d] => { results := [.lit (.bool true)], args := [d] }
  | _ => none }
def fnServerNameBackRow : OpenClaim := { program := "ytkjpkenhpmjikaadoor", sum := "07aee5a450cd94ceaddf4ccb89268724ecf501e94b3400e4f64312928498323c", func := "pub-convoy/laws.FnServerNameBack", spec := "fnServerNameBack", unfollowed := true, recurses := true, named := ["pub-convoy/pub/dtls/pkg/protocol/extension.errInvalidExtensionType", "pub-convoy/pub/dtls/pkg/protocol/extension.errBufferTooSmall", "pub-convoy/pub/dtls/pkg/protocol/extension.errInvalidSNIFormat", "pub-convoy/pub/dtls/pkg/protocol/extension.errLengthMismatch"], apart := false, laid := [("pub-convoy/pub/dtls/pkg/protocol/extension.errBufferTooSmall", laid_pub_convoy_pub_dtls_pkg_protocol_extension_errBufferTooSmall), ("pub-convoy/pub/dtls/pkg/protocol/extension.errInvalidExtensionType", laid_pub_convoy_pub_dtls_pkg_protocol_extension_errInvalidExtensionType), ("pub-convoy/pub/dtls/pkg/protocol/extension.errInvalidSNIFormat", laid_pub_convoy_pub_dtls_pkg_protocol_extension_errInvalidSNIFormat), ("pub-convoy/pub/dtls/pkg/protocol/extension.errLengthMismatch", laid_pub_convoy_pub_dtls_pkg_protocol_extension_errLengthMismatch)] }
def FnServerNameBackSaid : Prop := fnServerNameBackRow.holds Tryd.pinned (OpenSpec.ofChange fnServerNameBackSpec)

/-- ITS FALSE NEIGHBOUR: 'it returns false'. Refute it at one input. -/
def fnServerNameBackWrong : ChangeSpec := { name := "fnServerNameBack", fn := fun _ => fun
  | [d] => { results := [.lit (.bool false)], args := [d] }
  | _ => none }
def FnServerNameBackWrongFalsely : Prop := fnServerNameBackRow.holds Tryd.pinned (OpenSpec.ofChange fnServerNameBackWrong)

/-- 'laws.FnSupportedVersionsCut': WHATEVER THE INPUT: true; the input reads as it did. -/
def fnSupportedVersionsCutSpec : ChangeSpec := { name := "fnSupportedVersionsCut", fn := fun _ => fun
  | [d1, d2] => { results := [.lit (.bool true)], args := [d1, d2] }
  | _ => none }
def fnSupportedVersionsCutRow : OpenClaim := { program := "ytkjpkenhpmjikaadoor", sum := "07aee5a450cd94ceaddf4ccb89268724ecf501e94b3400e4f64312928498323c", func := "pub-convoy/laws.FnSupportedVersionsCut", spec := "fnSupportedVersionsCut", named := ["pub-convoy/pub/dtls/pkg/protocol/extension.errInvalidExtensionType", "pub-convoy/pub/dtls/pkg/protocol/extension.errBufferTooSmall", "pub-convoy/pub/dtls/pkg/protocol/extension.errInvalidSupportedVersionsFormat", "pub-convoy/pub/dtls/pkg/protocol/extension.errLengthMismatch"], apart := false, laid := [("pub-convoy/pub/dtls/pkg/protocol/extension.errBufferTooSmall", laid_pub_convoy_pub_dtls_pkg_protocol_extension_errBufferTooSmall), ("pub-convoy/pub/dtls/pkg/protocol/extension.errInvalidExtensionType", laid_pub_convoy_pub_dtls_pkg_protocol_extension_errInvalidExtensionType), ("pub-convoy/pub/dtls/pkg/protocol/extension.errLengthMismatch", laid_pub_convoy_pub_dtls_pkg_protocol_extension_errLengthMismatch), ("pub-convoy/pub/dtls/pkg/protocol/extension.errInvalidSupportedVersionsFormat", laid_pub_convoy_pub_dtls_pkg_protocol_extension_errInvalidSupportedVersionsFormat)] }
def FnSupportedVersionsCutSaid : Prop := fnSupportedVersionsCutRow.holds Tryd.pinned (OpenSpec.ofChange fnSupportedVersionsCutSpec)

/-- ITS FALSE NEIGHBOUR: 'it returns false'. Refute it at one input. -/
def fnSupportedVersionsCutWrong : ChangeSpec := { name := "fnSupportedVersionsCut", fn := fun _ => fun
  | [d1, d2] => { results := [.lit (.bool false)], args := [d1, d2] }
  | _ => none }
def FnSupportedVersionsCutWrongFalsely : Prop := fnSupportedVersionsCutRow.holds Tryd.pinned (OpenSpec.ofChange fnSupportedVersionsCutWrong)

/-- 'laws.FnKeyShareGroupBack': WHATEVER THE INPUT: true; the input reads as it did. -/
def fnKeyShareGroupBackSpec : ChangeSpec := { name := "fnKeyShareGroupBack", fn := fun _ => fun
  | [d] => { results := [.lit (.bool true)], args := [d] }
  | _ => none }
def fnKeyShareGroupBackRow : OpenClaim := { program := "ytkjpkenhpmjikaadoor", sum := "07aee5a450cd94ceaddf4ccb89268724ecf501e94b3400e4f64312928498323c", func := "pub-convoy/laws.FnKeyShareGroupBack", spec := "fnKeyShareGroupBack", unfollowed := true, recurses := true, named := ["pub-convoy/pub/dtls/pkg/protocol/extension.errInvalidExtensionType", "pub-convoy/pub/dtls/pkg/protocol/extension.errBufferTooSmall", "pub-convoy/pub/dtls/pkg/protocol/extension.errInvalidKeyShareFormat", "pub-convoy/pub/dtls/pkg/protocol/extension.errDuplicateKeyShare"], apart := false, laid := [("pub-convoy/pub/dtls/pkg/protocol/extension.errBufferTooSmall", laid_pub_convoy_pub_dtls_pkg_protocol_extension_errBufferTooSmall), ("pub-convoy/pub/dtls/pkg/protocol/extension.errInvalidExtensionType", laid_pub_convoy_pub_dtls_pkg_protocol_extension_errInvalidExtensionType), ("pub-convoy/pub/dtls/pkg/protocol/extension.errInvalidKeyShareFormat", laid_pub_convoy_pub_dtls_pkg_protocol_extension_errInvalidKeyShareFormat), ("pub-convoy/pub/dtls/pkg/protocol/extension.errDuplicateKeyShare", laid_pub_convoy_pub_dtls_pkg_protocol_extension_errDuplicateKeyShare)] }
def FnKeyShareGroupBackSaid : Prop := fnKeyShareGroupBackRow.holds Tryd.pinned (OpenSpec.ofChange fnKeyShareGroupBackSpec)

/-- ITS FALSE NEIGHBOUR: 'it returns false'. Refute it at one input. -/
def fnKeyShareGroupBackWrong : ChangeSpec := { name := "fnKeyShareGroupBack", fn := fun _ => fun
  | [d] => { results := [.lit (.bool false)], args := [d] }
  | _ => none }
def FnKeyShareGroupBackWrongFalsely : Prop := fnKeyShareGroupBackRow.holds Tryd.pinned (OpenSpec.ofChange fnKeyShareGroupBackWrong)

/-- 'laws.FnSignatureAlgorithmsCertBack': WHATEVER THE INPUT: true; the input reads as it did. -/
def fnSignatureAlgorithmsCertBackSpec : ChangeSpec := { name := "fnSignatureAlgorithmsCertBack", fn := fun _ => fun
  | [d] => { results := [.lit (.bool true)], args := [d] }
  | _ => none }
def fnSignatureAlgorithmsCertBackRow : OpenClaim := { program := "ytkjpkenhpmjikaadoor", sum := "07aee5a450cd94ceaddf4ccb89268724ecf501e94b3400e4f64312928498323c", func := "pub-convoy/laws.FnSignatureAlgorithmsCertBack", spec := "fnSignatureAlgorithmsCertBack", unfollowed := true, recurses := true, named := ["pub-convoy/pub/dtls/pkg/protocol/extension.errInvalidExtensionType", "pub-convoy/pub/dtls/pkg/protocol/extension.errBufferTooSmall", "pub-convoy/pub/dtls/pkg/protocol/extension.errLengthMismatch", "pub-convoy/pub/dtls/pkg/crypto/signaturehash.errInvalidHashAlgorithm", "pub-convoy/pub/dtls/pkg/crypto/signaturehash.errInvalidSignatureAlgorithm"], apart := false, laid := [("pub-convoy/pub/dtls/pkg/crypto/signaturehash.errInvalidSignatureAlgorithm", laid_pub_convoy_pub_dtls_pkg_crypto_signaturehash_errInvalidSignatureAlgorithm), ("pub-convoy/pub/dtls/pkg/crypto/signaturehash.errInvalidHashAlgorithm", laid_pub_convoy_pub_dtls_pkg_crypto_signaturehash_errInvalidHashAlgorithm), ("pub-convoy/pub/dtls/pkg/protocol/extension.errBufferTooSmall", laid_pub_convoy_pub_dtls_pkg_protocol_extension_errBufferTooSmall), ("pub-convoy/pub/dtls/pkg/protocol/extension.errInvalidExtensionType", laid_pub_convoy_pub_dtls_pkg_protocol_extension_errInvalidExtensionType), ("pub-convoy/pub/dtls/pkg/protocol/extension.errLengthMismatch", laid_pub_convoy_pub_dtls_pkg_protocol_extension_errLengthMismatch)] }
def FnSignatureAlgorithmsCertBackSaid : Prop := fnSignatureAlgorithmsCertBackRow.holds Tryd.pinned (OpenSpec.ofChange fnSignatureAlgorithmsCertBackSpec)

/-- ITS FALSE NEIGHBOUR: 'it returns false'. Refute it at one input. -/
def fnSignatureAlgorithmsCertBackWrong : ChangeSpec := { name := "fnSignatureAlgorithmsCertBack", fn := fun _ => fun
  | [d] => { results := [.lit (.bool false)], args := [d] }
  | _ => none }
def FnSignatureAlgorithmsCertBackWrongFalsely : Prop := fnSignatureAlgorithmsCertBackRow.holds Tryd.pinned (OpenSpec.ofChange fnSignatureAlgorithmsCertBackWrong)

/-- 'laws.FnCertificateCut': WHATEVER THE INPUT: true; the input reads as it did. -/
def fnCertificateCutSpec : ChangeSpec := { name := "fnCertificateCut", fn := fun _ => fun
  | [d1, d2] => { results := [.lit (.bool true)], args := [d1, d2] }
  | _ => none }
def fnCertificateCutRow : OpenClaim := { program := "ytkjpkenhpmjikaadoor", sum := "07aee5a450cd94ceaddf4ccb89268724ecf501e94b3400e4f64312928498323c", func := "pub-convoy/laws.FnCertificateCut", spec := "fnCertificateCut", named := ["pub-convoy/pub/dtls/pkg/protocol/handshake.errBufferTooSmall", "pub-convoy/pub/dtls/pkg/protocol/handshake.errLengthMismatch", "encoding/binary.BigEndian"], apart := false, laid := [("pub-convoy/pub/dtls/pkg/protocol/handshake.errBufferTooSmall", laid_pub_convoy_pub_dtls_pkg_protocol_handshake_errBufferTooSmall), ("pub-convoy/pub/dtls/pkg/protocol/handshake.errLengthMismatch", laid_pub_convoy_pub_dtls_pkg_protocol_handshake_errLengthMismatch)] }
def FnCertificateCutSaid : Prop := fnCertificateCutRow.holds Tryd.pinned (OpenSpec.ofChange fnCertificateCutSpec)

/-- ITS FALSE NEIGHBOUR: 'it returns false'. Refute it at one input. -/
def fnCertificateCutWrong : ChangeSpec := { name := "fnCertificateCut", fn := fun _ => fun
  | [d1, d2] => { results := [.lit (.bool false)], args := [d1, d2] }
  | _ => none }
def FnCertificateCutWrongFalsely : Prop := fnCertificateCutRow.holds Tryd.pinned (OpenSpec.ofChange fnCertificateCutWrong)

/-- 'laws.FnHandshakeHeaderRead': WHATEVER THE INPUT: true; the input reads as it did. -/
def fnHandshakeHeaderReadSpec : ChangeSpec := { name := "fnHandshakeHeaderRead", fn := fun _ => fun
  | [d] => { results := [.lit (.bool true)], args := [d] }
  | _ => none }
def fnHandshakeHeaderReadRow : OpenClaim := { program := "ytkjpkenhpmjikaadoor", sum := "07aee5a450cd94ceaddf4ccb89268724ecf501e94b3400e4f64312928498323c", func := "pub-convoy/laws.FnHandshakeHeaderRead", spec := "fnHandshakeHeaderRead", named := ["pub-convoy/pub/dtls/pkg/protocol/handshake.errBufferTooSmall", "encoding/binary.BigEndian"], apart := false, laid := [("pub-convoy/pub/dtls/pkg/protocol/handshake.errBufferTooSmall", laid_pub_convoy_pub_dtls_pkg_protocol_handshake_errBufferTooSmall)] }
def FnHandshakeHeaderReadSaid : Prop := fnHandshakeHeaderReadRow.holds Tryd.pinned (OpenSpec.ofChange fnHandshakeHeaderReadSpec)

/-- ITS FALSE NEIGHBOUR: 'it returns false'. Refute it at one input. -/
def fnHandshakeHeaderReadWrong : ChangeSpec := { name := "fnHandshakeHeaderRead", fn := fun _ => fun
  | [d] => { results := [.lit (.bool false)], args := [d] }
  | _ => none }
def FnHandshakeHeaderReadWrongFalsely : Prop := fnHandshakeHeaderReadRow.holds Tryd.pinned (OpenSpec.ofChange fnHandshakeHeaderReadWrong)

/- THE SECOND FORM. 'bulk': how many values and letters a reading holds, each counted each time it is reached (what is shared counts as often as it is met; a slice's spare places count too). A statement '..UptoSaid' is the law's where the arguments, and the package variables that the reading takes, are together of bulk at most 1048576: NARROWER than '..Said'. Prove '..Said' where nothing that the law and all that it calls make is longer than what came in: it says more and counts as full. Else prove '..UptoSaid'. A law counts once. -/
mutual
def uptoBulk {H : Type} : DataW H → Nat
  | .lit (.string bytes) => bytes.length + 1
  | .lit _ => 1
  | .nil => 1
  | .ptr d => uptoBulk d + 1
  | .slice elems spare => uptoBulkAll elems + uptoBulkAll spare + 1
  | .agg parts => uptoBulkAll parts + 1
  | .iface _ d => uptoBulk d + 1
  | .map entries => uptoBulkEntries entries + 1
  | .held _ => 1
def uptoBulkAll {H : Type} : List (DataW H) → Nat
  | [] => 0
  | d :: r => uptoBulk d + uptoBulkAll r
def uptoBulkEntries {H : Type} : List (Lit × DataW H) → Nat
  | [] => 0
  | x :: r => uptoBulkEntry x + uptoBulkEntries r
def uptoBulkEntry {H : Type} : Lit × DataW H → Nat
  | (.string bytes, d) => bytes.length + uptoBulk d + 1
  | (_, d) => uptoBulk d + 1
 end
def uptoSmall : (H : Type) → List (DataW H) → Bool := fun _ ds => decide (uptoBulkAll ds ≤ 1048576)
def OpenSpec.upto (s : _root_.Go.ChangeSpec) : _root_.Go.OpenSpec := { _root_.Go.OpenSpec.ofChange s with cond := some uptoSmall }

/-- 'laws.FnGroupsCut', WHERE WHAT IT READS IS OF BULK AT MOST 1048576: true; the input reads as it did. -/
def fnGroupsCutUptoRow : OpenClaim := { program := "ytkjpkenhpmjikaadoor", sum := "07aee5a450cd94ceaddf4ccb89268724ecf501e94b3400e4f64312928498323c", func := "pub-convoy/laws.FnGroupsCut", spec := "fnGroupsCut", named := ["pub-convoy/pub/dtls/pkg/protocol/extension.errBufferTooSmall", "encoding/binary.BigEndian", "pub-convoy/pub/dtls/pkg/protocol/extension.errInvalidExtensionType", "pub-convoy/pub/dtls/pkg/protocol/extension.errLengthMismatch"], apart := false, laid := [("pub-convoy/pub/dtls/pkg/protocol/extension.errBufferTooSmall", laid_pub_convoy_pub_dtls_pkg_protocol_extension_errBufferTooSmall), ("pub-convoy/pub/dtls/pkg/protocol/extension.errInvalidExtensionType", laid_pub_convoy_pub_dtls_pkg_protocol_extension_errInvalidExtensionType), ("pub-convoy/pub/dtls/pkg/protocol/extension.errLengthMismatch", laid_pub_convoy_pub_dtls_pkg_protocol_extension_errLengthMismatch)], narrowed := true }
def FnGroupsCutUptoSaid : Prop := fnGroupsCutUptoRow.holds Tryd.pinned (OpenSpec.upto fnGroupsCutSpec)

/-- 'laws.FnSRTPCut', WHERE WHAT IT READS IS OF BULK AT MOST 1048576: true; the input reads as it did. -/
def fnSRTPCutUptoRow : OpenClaim := { program := "ytkjpkenhpmjikaadoor", sum := "07aee5a450cd94ceaddf4ccb89268724ecf501e94b3400e4f64312928498323c", func := "pub-convoy/laws.FnSRTPCut", spec := "fnSRTPCut", named := ["pub-convoy/pub/dtls/pkg/protocol/extension.errBufferTooSmall", "encoding/binary.BigEndian", "pub-convoy/pub/dtls/pkg/protocol/extension.errInvalidExtensionType", "pub-convoy/pub/dtls/pkg/protocol/extension.errLengthMismatch"], apart := false, laid := [("pub-convoy/pub/dtls/pkg/protocol/extension.errBufferTooSmall", laid_pub_convoy_pub_dtls_pkg_protocol_extension_errBufferTooSmall), ("pub-convoy/pub/dtls/pkg/protocol/extension.errInvalidExtensionType", laid_pub_convoy_pub_dtls_pkg_protocol_extension_errInvalidExtensionType), ("pub-convoy/pub/dtls/pkg/protocol/extension.errLengthMismatch", laid_pub_convoy_pub_dtls_pkg_protocol_extension_errLengthMismatch)], narrowed := true }
def FnSRTPCutUptoSaid : Prop := fnSRTPCutUptoRow.holds Tryd.pinned (OpenSpec.upto fnSRTPCutSpec)

/-- 'laws.FnCookieCut', WHERE WHAT IT READS IS OF BULK AT MOST 1048576: true; the input reads as it did. -/
def fnCookieCutUptoRow : OpenClaim := { program := "ytkjpkenhpmjikaadoor", sum := "07aee5a450cd94ceaddf4ccb89268724ecf501e94b3400e4f64312928498323c", func := "pub-convoy/laws.FnCookieCut", spec := "fnCookieCut", named := ["pub-convoy/pub/dtls/pkg/protocol/extension.errInvalidExtensionType", "pub-convoy/pub/dtls/pkg/protocol/extension.errBufferTooSmall", "pub-convoy/pub/dtls/pkg/protocol/extension.errCookieExtFormat", "pub-convoy/pub/dtls/pkg/protocol/extension.errLengthMismatch"], apart := false, laid := [("pub-convoy/pub/dtls/pkg/protocol/extension.errBufferTooSmall", laid_pub_convoy_pub_dtls_pkg_protocol_extension_errBufferTooSmall), ("pub-convoy/pub/dtls/pkg/protocol/extension.errInvalidExtensionType", laid_pub_convoy_pub_dtls_pkg_protocol_extension_errInvalidExtensionType), ("pub-convoy/pub/dtls/pkg/protocol/extension.errLengthMismatch", laid_pub_convoy_pub_dtls_pkg_protocol_extension_errLengthMismatch), ("pub-convoy/pub/dtls/pkg/protocol/extension.errCookieExtFormat", laid_pub_convoy_pub_dtls_pkg_protocol_extension_errCookieExtFormat)], narrowed := true }
def FnCookieCutUptoSaid : Prop := fnCookieCutUptoRow.holds Tryd.pinned (OpenSpec.upto fnCookieCutSpec)

/-- 'laws.FnEarlyDataBack', WHERE WHAT IT READS IS OF BULK AT MOST 1048576: true; the input reads as it did. -/
def fnEarlyDataBackUptoRow : OpenClaim := { program := "ytkjpkenhpmjikaadoor", sum := "07aee5a450cd94ceaddf4ccb89268724ecf501e94b3400e4f64312928498323c", func := "pub-convoy/laws.FnEarlyDataBack", spec := "fnEarlyDataBack", unfollowed := true, recurses := true, named := ["pub-convoy/pub/dtls/pkg/protocol/extension.errInvalidExtensionType", "pub-convoy/pub/dtls/pkg/protocol/extension.errBufferTooSmall", "pub-convoy/pub/dtls/pkg/protocol/extension.errEarlyDataIndicationFormat"], apart := false, laid := [("pub-convoy/pub/dtls/pkg/protocol/extension.errBufferTooSmall", laid_pub_convoy_pub_dtls_pkg_protocol_extension_errBufferTooSmall), ("pub-convoy/pub/dtls/pkg/protocol/extension.errInvalidExtensionType", laid_pub_convoy_pub_dtls_pkg_protocol_extension_errInvalidExtensionType), ("pub-convoy/pub/dtls/pkg/protocol/extension.errEarlyDataIndicationFormat", laid_pub_convoy_pub_dtls_pkg_protocol_extension_errEarlyDataIndicationFormat)], narrowed := true }
def FnEarlyDataBackUptoSaid : Prop := fnEarlyDataBackUptoRow.holds Tryd.pinned (OpenSpec.upto fnEarlyDataBackSpec)

/-- 'laws.FnPskModesCut', WHERE WHAT IT READS IS OF BULK AT MOST 1048576: true; the input reads as it did. -/
def fnPskModesCutUptoRow : OpenClaim := { program := "ytkjpkenhpmjikaadoor", sum := "07aee5a450cd94ceaddf4ccb89268724ecf501e94b3400e4f64312928498323c", func := "pub-convoy/laws.FnPskModesCut", spec := "fnPskModesCut", named := ["pub-convoy/pub/dtls/pkg/protocol/extension.errInvalidExtensionType", "pub-convoy/pub/dtls/pkg/protocol/extension.errBufferTooSmall", "pub-convoy/pub/dtls/pkg/protocol/extension.errPskKeyExchangeModesFormat", "pub-convoy/pub/dtls/pkg/protocol/extension.errLengthMismatch"], apart := false, laid := [("pub-convoy/pub/dtls/pkg/protocol/extension.errBufferTooSmall", laid_pub_convoy_pub_dtls_pkg_protocol_extension_errBufferTooSmall), ("pub-convoy/pub/dtls/pkg/protocol/extension.errInvalidExtensionType", laid_pub_convoy_pub_dtls_pkg_protocol_extension_errInvalidExtensionType), ("pub-convoy/pub/dtls/pkg/protocol/extension.errLengthMismatch", laid_pub_convoy_pub_dtls_pkg_protocol_extension_errLengthMismatch), ("pub-convoy/pub/dtls/pkg/protocol/extension.errPskKeyExchangeModesFormat", laid_pub_convoy_pub_dtls_pkg_protocol_extension_errPskKeyExchangeModesFormat)], narrowed := true }
def FnPskModesCutUptoSaid : Prop := fnPskModesCutUptoRow.holds Tryd.pinned (OpenSpec.upto fnPskModesCutSpec)

/-- 'laws.FnConnectionIDBack', WHERE WHAT IT READS IS OF BULK AT MOST 1048576: true; the input reads as it did. -/
def fnConnectionIDBackUptoRow : OpenClaim := { program := "ytkjpkenhpmjikaadoor", sum := "07aee5a450cd94ceaddf4ccb89268724ecf501e94b3400e4f64312928498323c", func := "pub-convoy/laws.FnConnectionIDBack", spec := "fnConnectionIDBack", unfollowed := true, recurses := true, named := ["pub-convoy/pub/dtls/pkg/protocol/extension.errInvalidExtensionType", "pub-convoy/pub/dtls/pkg/protocol/extension.errBufferTooSmall", "pub-convoy/pub/dtls/pkg/protocol/extension.errInvalidCIDFormat", "pub-convoy/pub/dtls/pkg/protocol/extension.errLengthMismatch"], apart := false, laid := [("pub-convoy/pub/dtls/pkg/protocol/extension.errBufferTooSmall", laid_pub_convoy_pub_dtls_pkg_protocol_extension_errBufferTooSmall), ("pub-convoy/pub/dtls/pkg/protocol/extension.errInvalidExtensionType", laid_pub_convoy_pub_dtls_pkg_protocol_extension_errInvalidExtensionType), ("pub-convoy/pub/dtls/pkg/protocol/extension.errInvalidCIDFormat", laid_pub_convoy_pub_dtls_pkg_protocol_extension_errInvalidCIDFormat), ("pub-convoy/pub/dtls/pkg/protocol/extension.errLengthMismatch", laid_pub_convoy_pub_dtls_pkg_protocol_extension_errLengthMismatch)], narrowed := true }
def FnConnectionIDBackUptoSaid : Prop := fnConnectionIDBackUptoRow.holds Tryd.pinned (OpenSpec.upto fnConnectionIDBackSpec)

/-- 'laws.FnServerNameBack', WHERE WHAT IT READS IS OF BULK AT MOST 1048576: true; the input reads as it did. -/
def fnServerNameBackUptoRow : OpenClaim := { program := "ytkjpkenhpmjikaadoor", sum := "07aee5a450cd94ceaddf4ccb89268724ecf501e94b3400e4f64312928498323c", func := "pub-convoy/laws.FnServerNameBack", spec := "fnServerNameBack", unfollowed := true, recurses := true, named := ["pub-convoy/pub/dtls/pkg/protocol/extension.errInvalidExtensionType", "pub-convoy/pub/dtls/pkg/protocol/extension.errBufferTooSmall", "pub-convoy/pub/dtls/pkg/protocol/extension.errInvalidSNIFormat", "pub-convoy/pub/dtls/pkg/protocol/extension.errLengthMismatch"], apart := false, laid := [("pub-convoy/pub/dtls/pkg/protocol/extension.errBufferTooSmall", laid_pub_convoy_pub_dtls_pkg_protocol_extension_errBufferTooSmall), ("pub-convoy/pub/dtls/pkg/protocol/extension.errInvalidExtensionType", laid_pub_convoy_pub_dtls_pkg_protocol_extension_errInvalidExtensionType), ("pub-convoy/pub/dtls/pkg/protocol/extension.errInvalidSNIFormat", laid_pub_convoy_pub_dtls_pkg_protocol_extension_errInvalidSNIFormat), ("pub-convoy/pub/dtls/pkg/protocol/extension.errLengthMismatch", laid_pub_convoy_pub_dtls_pkg_protocol_extension_errLengthMismatch)], narrowed := true }
def FnServerNameBackUptoSaid : Prop := fnServerNameBackUptoRow.holds Tryd.pinned (OpenSpec.upto fnServerNameBackSpec)

/-- 'laws.FnSupportedVersionsCut', WHERE WHAT IT READS IS OF BULK AT MOST 1048576: true; the input reads as it did. -/
def fnSupportedVersionsCutUptoRow : OpenClaim := { program := "ytkjpkenhpmjikaadoor", sum := "07aee5a450cd94ceaddf4ccb89268724ecf501e94b3400e4f64312928498323c", func := "pub-convoy/laws.FnSupportedVersionsCut", spec := "fnSupportedVersionsCut", named := ["pub-convoy/pub/dtls/pkg/protocol/extension.errInvalidExtensionType", "pub-convoy/pub/dtls/pkg/protocol/extension.errBufferTooSmall", "pub-convoy/pub/dtls/pkg/protocol/extension.errInvalidSupportedVersionsFormat", "pub-convoy/pub/dtls/pkg/protocol/extension.errLengthMismatch"], apart := false, laid := [("pub-convoy/pub/dtls/pkg/protocol/extension.errBufferTooSmall", laid_pub_convoy_pub_dtls_pkg_protocol_extension_errBufferTooSmall), ("pub-convoy/pub/dtls/pkg/protocol/extension.errInvalidExtensionType", laid_pub_convoy_pub_dtls_pkg_protocol_extension_errInvalidExtensionType), ("pub-convoy/pub/dtls/pkg/protocol/extension.errLengthMismatch", laid_pub_convoy_pub_dtls_pkg_protocol_extension_errLengthMismatch), ("pub-convoy/pub/dtls/pkg/protocol/extension.errInvalidSupportedVersionsFormat", laid_pub_convoy_pub_dtls_pkg_protocol_extension_errInvalidSupportedVersionsFormat)], narrowed := true }
def FnSupportedVersionsCutUptoSaid : Prop := fnSupportedVersionsCutUptoRow.holds Tryd.pinned (OpenSpec.upto fnSupportedVersionsCutSpec)

/-- 'laws.FnKeyShareGroupBack', WHERE WHAT IT READS IS OF BULK AT MOST 1048576: true; the input reads as it did. -/
def fnKeyShareGroupBackUptoRow : OpenClaim := { program := "ytkjpkenhpmjikaadoor", sum := "07aee5a450cd94ceaddf4ccb89268724ecf501e94b3400e4f64312928498323c", func := "pub-convoy/laws.FnKeyShareGroupBack", spec := "fnKeyShareGroupBack", unfollowed := true, recurses := true, named := ["pub-convoy/pub/dtls/pkg/protocol/extension.errInvalidExtensionType", "pub-convoy/pub/dtls/pkg/protocol/extension.errBufferTooSmall", "pub-convoy/pub/dtls/pkg/protocol/extension.errInvalidKeyShareFormat", "pub-convoy/pub/dtls/pkg/protocol/extension.errDuplicateKeyShare"], apart := false, laid := [("pub-convoy/pub/dtls/pkg/protocol/extension.errBufferTooSmall", laid_pub_convoy_pub_dtls_pkg_protocol_extension_errBufferTooSmall), ("pub-convoy/pub/dtls/pkg/protocol/extension.errInvalidExtensionType", laid_pub_convoy_pub_dtls_pkg_protocol_extension_errInvalidExtensionType), ("pub-convoy/pub/dtls/pkg/protocol/extension.errInvalidKeyShareFormat", laid_pub_convoy_pub_dtls_pkg_protocol_extension_errInvalidKeyShareFormat), ("pub-convoy/pub/dtls/pkg/protocol/extension.errDuplicateKeyShare", laid_pub_convoy_pub_dtls_pkg_protocol_extension_errDuplicateKeyShare)], narrowed := true }
def FnKeyShareGroupBackUptoSaid : Prop := fnKeyShareGroupBackUptoRow.holds Tryd.pinned (OpenSpec.upto fnKeyShareGroupBackSpec)

/-- 'laws.FnSignatureAlgorithmsCertBack', WHERE WHAT IT READS IS OF BULK AT MOST 1048576: true; the input reads as it did. -/
def fnSignatureAlgorithmsCertBackUptoRow : OpenClaim := { program := "ytkjpkenhpmjikaadoor", sum := "07aee5a450cd94ceaddf4ccb89268724ecf501e94b3400e4f64312928498323c", func := "pub-convoy/laws.FnSignatureAlgorithmsCertBack", spec := "fnSignatureAlgorithmsCertBack", unfollowed := true, recurses := true, named := ["pub-convoy/pub/dtls/pkg/protocol/extension.errInvalidExtensionType", "pub-convoy/pub/dtls/pkg/protocol/extension.errBufferTooSmall", "pub-convoy/pub/dtls/pkg/protocol/extension.errLengthMismatch", "pub-convoy/pub/dtls/pkg/crypto/signaturehash.errInvalidHashAlgorithm", "pub-convoy/pub/dtls/pkg/crypto/signaturehash.errInvalidSignatureAlgorithm"], apart := false, laid := [("pub-convoy/pub/dtls/pkg/crypto/signaturehash.errInvalidSignatureAlgorithm", laid_pub_convoy_pub_dtls_pkg_crypto_signaturehash_errInvalidSignatureAlgorithm), ("pub-convoy/pub/dtls/pkg/crypto/signaturehash.errInvalidHashAlgorithm", laid_pub_convoy_pub_dtls_pkg_crypto_signaturehash_errInvalidHashAlgorithm), ("pub-convoy/pub/dtls/pkg/protocol/extension.errBufferTooSmall", laid_pub_convoy_pub_dtls_pkg_protocol_extension_errBufferTooSmall), ("pub-convoy/pub/dtls/pkg/protocol/extension.errInvalidExtensionType", laid_pub_convoy_pub_dtls_pkg_protocol_extension_errInvalidExtensionType), ("pub-convoy/pub/dtls/pkg/protocol/extension.errLengthMismatch", laid_pub_convoy_pub_dtls_pkg_protocol_extension_errLengthMismatch)], narrowed := true }
def FnSignatureAlgorithmsCertBackUptoSaid : Prop := fnSignatureAlgorithmsCertBackUptoRow.holds Tryd.pinned (OpenSpec.upto fnSignatureAlgorithmsCertBackSpec)

/-- 'laws.FnCertificateCut', WHERE WHAT IT READS IS OF BULK AT MOST 1048576: true; the input reads as it did. -/
def fnCertificateCutUptoRow : OpenClaim := { program := "ytkjpkenhpmjikaadoor", sum := "07aee5a450cd94ceaddf4ccb89268724ecf501e94b3400e4f64312928498323c", func := "pub-convoy/laws.FnCertificateCut", spec := "fnCertificateCut", named := ["pub-convoy/pub/dtls/pkg/protocol/handshake.errBufferTooSmall", "pub-convoy/pub/dtls/pkg/protocol/handshake.errLengthMismatch", "encoding/binary.BigEndian"], apart := false, laid := [("pub-convoy/pub/dtls/pkg/protocol/handshake.errBufferTooSmall", laid_pub_convoy_pub_dtls_pkg_protocol_handshake_errBufferTooSmall), ("pub-convoy/pub/dtls/pkg/protocol/handshake.errLengthMismatch", laid_pub_convoy_pub_dtls_pkg_protocol_handshake_errLengthMismatch)], narrowed := true }
def FnCertificateCutUptoSaid : Prop := fnCertificateCutUptoRow.holds Tryd.pinned (OpenSpec.upto fnCertificateCutSpec)

/-- 'laws.FnHandshakeHeaderRead', WHERE WHAT IT READS IS OF BULK AT MOST 1048576: true; the input reads as it did. -/
def fnHandshakeHeaderReadUptoRow : OpenClaim := { program := "ytkjpkenhpmjikaadoor", sum := "07aee5a450cd94ceaddf4ccb89268724ecf501e94b3400e4f64312928498323c", func := "pub-convoy/laws.FnHandshakeHeaderRead", spec := "fnHandshakeHeaderRead", named := ["pub-convoy/pub/dtls/pkg/protocol/handshake.errBufferTooSmall", "encoding/binary.BigEndian"], apart := false, laid := [("pub-convoy/pub/dtls/pkg/protocol/handshake.errBufferTooSmall", laid_pub_convoy_pub_dtls_pkg_protocol_handshake_errBufferTooSmall)], narrowed := true }
def FnHandshakeHeaderReadUptoSaid : Prop := fnHandshakeHeaderReadUptoRow.holds Tryd.pinned (OpenSpec.upto fnHandshakeHeaderReadSpec)

end Rows
end Go.Proofs.YtkjpkenhpmjikaaDoor
