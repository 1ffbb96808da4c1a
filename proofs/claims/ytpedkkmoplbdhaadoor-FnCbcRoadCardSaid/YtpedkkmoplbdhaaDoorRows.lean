/-
  NARROWER THAN 'FOR EVERY INPUT', by the rows' own cells (each row's printed sentence says how): FnChachaCIDSeal: laid · FnCcmOpen: laid · FnAeadOpen: laid · FnCbcRoad: laid.
  DERIVED. THE GIVEN ROWS OF THIS SEAT. 4 by the template 'for every input the law returns true; each argument reads behind the call as it read before'; 0 by the template 'total and deterministic' (their statements: YtpedkkmoplbdhaaDoorTotals.lean).
  GIVEN WITH THE SEED: the statements are not yours to turn. If you find one false, say at which input.
  Laid BY PROGRAM, IN A SANDBOX (cutbox-rows.mjs): the forced cells as the released guide's own fill.sh prints them over the translation ef4dbc7eebc23041… (all of the seat's roots in one cut). By AI agents, Wed Nov 11 2026. No macro, syntax, notation, axiom, sorry.
-/
import Derived.Test.YtpedkkmoplbdhaaDoorChecked
import GoSem.Claim
import GoSem.ClaimJoined
import GoSem.ClaimMapViews
import Derived.JoinedTies
import Derived.KernelRfl
namespace Go.Proofs.YtpedkkmoplbdhaaDoor
/- THE CELL 'sum', in the pinned program and in every row, IS THE sha256 OF THE DUMP (.gsa) THAT YtpedkkmoplbdhaaDoorProg.lean LOADS. Nothing in Lean hashes anything: it is a label: what it is worth is what the hold of that sum in a sandbox is worth. -/
noncomputable def Tryd.pinned : Pinned := { name := "ytpedkkmoplbdhaadoor", sum := "ef4dbc7eebc2304172f45dd8708951bef6b6694fa59509b673bfd4103274de19", checked := Tryd.checked }
namespace Rows
def none {H : Type} : Left H := { results := [], args := [] }

/- WHAT THE LISTED PACKAGE-LEVEL VARIABLES READ AS WHEN THE CALL BEGINS. Each datum BY PROGRAM (the guide's laid-datum.mjs) off the statement by which the dump's own 'gosem.cut.vars' lays the variable. In a bare row this is a premise. The card (YtpedkkmoplbdhaaDoorCards.lean) ties it to the program's text. -/
def laid_pub_convoy_pub_dtls_pkg_protocol_recordlayer_errSequenceNumberOverflow {H : Type} : DataW H := .iface "*errors.errorString" (.ptr (.agg [.lit (.string [115, 101, 113, 117, 101, 110, 99, 101, 32, 110, 117, 109, 98, 101, 114, 32, 111, 118, 101, 114, 102, 108, 111, 119])]))
def laid_pub_convoy_pub_dtls_pkg_crypto_ccm_errInvalidBlockSize {H : Type} : DataW H := .iface "*errors.errorString" (.ptr (.agg [.lit (.string [99, 99, 109, 58, 32, 78, 101, 119, 67, 67, 77, 32, 114, 101, 113, 117, 105, 114, 101, 115, 32, 49, 50, 56, 45, 98, 105, 116, 32, 98, 108, 111, 99, 107, 32, 99, 105, 112, 104, 101, 114])]))
def laid_pub_convoy_pub_dtls_pkg_crypto_ccm_errInvalidTagSize {H : Type} : DataW H := .iface "*errors.errorString" (.ptr (.agg [.lit (.string [99, 99, 109, 58, 32, 116, 97, 103, 115, 105, 122, 101, 32, 109, 117, 115, 116, 32, 98, 101, 32, 52, 44, 32, 54, 44, 32, 56, 44, 32, 49, 48, 44, 32, 49, 50, 44, 32, 49, 52, 44, 32, 111, 114, 32, 49, 54])]))
def laid_pub_convoy_pub_dtls_pkg_crypto_ccm_errInvalidNonceSize {H : Type} : DataW H := .iface "*errors.errorString" (.ptr (.agg [.lit (.string [99, 99, 109, 58, 32, 105, 110, 118, 97, 108, 105, 100, 32, 110, 111, 110, 99, 101, 32, 115, 105, 122, 101])]))
def laid_pub_convoy_pub_dtls_pkg_protocol_Version1_0 {H : Type} : DataW H := .agg [.lit (.int .u8 254), .lit (.int .u8 255)]
def laid_pub_convoy_pub_dtls_pkg_protocol_Version1_2 {H : Type} : DataW H := .agg [.lit (.int .u8 254), .lit (.int .u8 253)]
def laid_pub_convoy_pub_dtls_pkg_protocol_recordlayer_errBufferTooSmall {H : Type} : DataW H := .iface "*errors.errorString" (.ptr (.agg [.lit (.string [98, 117, 102, 102, 101, 114, 32, 105, 115, 32, 116, 111, 111, 32, 115, 109, 97, 108, 108])]))
def laid_pub_convoy_pub_dtls_pkg_protocol_recordlayer_errUnsupportedProtocolVersion {H : Type} : DataW H := .iface "*errors.errorString" (.ptr (.agg [.lit (.string [117, 110, 115, 117, 112, 112, 111, 114, 116, 101, 100, 32, 112, 114, 111, 116, 111, 99, 111, 108, 32, 118, 101, 114, 115, 105, 111, 110])]))
def laid_pub_convoy_pub_dtls_pkg_crypto_ciphersuite_errNotEnoughRoomForNonce {H : Type} : DataW H := .iface "*errors.errorString" (.ptr (.agg [.lit (.string [98, 117, 102, 102, 101, 114, 32, 110, 111, 116, 32, 108, 111, 110, 103, 32, 101, 110, 111, 117, 103, 104, 32, 116, 111, 32, 99, 111, 110, 116, 97, 105, 110, 32, 110, 111, 110, 99, 101])]))
def laid_pub_convoy_pub_dtls_pkg_crypto_ciphersuite_errDecryptPacket {H : Type} : DataW H := .iface "*errors.errorString" (.ptr (.agg [.lit (.string [102, 97, 105, 108, 101, 100, 32, 116, 111, 32, 100, 101, 99, 114, 121, 112, 116, 32, 112, 97, 99, 107, 101, 116])]))
def laid_pub_convoy_pub_dtls_pkg_crypto_ciphersuite_errInvalidMAC {H : Type} : DataW H := .iface "*errors.errorString" (.ptr (.agg [.lit (.string [105, 110, 118, 97, 108, 105, 100, 32, 109, 97, 99])]))

/-- 'laws.FnChachaCIDSeal': WHATEVER THE INPUT: true; the input reads as it did. -/
def fnChachaCIDSealSpec : ChangeSpec := { name := "fnChachaCIDSeal", fn := fun _ => fun
  | [d1, d2, d3, d4] => { results := [.lit (.bool true)], args := [d1, d2, d3, d4] }
  | _ => none }
def fnChachaCIDSealRow : OpenClaim := { program := "ytpedkkmoplbdhaadoor", sum := "ef4dbc7eebc2304172f45dd8708951bef6b6694fa59509b673bfd4103274de19", func := "pub-convoy/laws.FnChachaCIDSeal", spec := "fnChachaCIDSeal", unfollowed := true, recurses := true, named := ["pub-convoy/pub/dtls/pkg/protocol/recordlayer.errSequenceNumberOverflow", "encoding/binary.BigEndian"], apart := false, laid := [("pub-convoy/pub/dtls/pkg/protocol/recordlayer.errSequenceNumberOverflow", laid_pub_convoy_pub_dtls_pkg_protocol_recordlayer_errSequenceNumberOverflow)] }
def FnChachaCIDSealSaid : Prop := fnChachaCIDSealRow.holds Tryd.pinned (OpenSpec.ofChange fnChachaCIDSealSpec)

/-- ITS FALSE NEIGHBOUR: 'it returns false'. Refute it at one input. -/
def fnChachaCIDSealWrong : ChangeSpec := { name := "fnChachaCIDSeal", fn := fun _ => fun
  | [d1, d2, d3, d4] => { results := [.lit (.bool false)], args := [d1, d2, d3, d4] }
  | _ => none }
def FnChachaCIDSealWrongFalsely : Prop := fnChachaCIDSealRow.holds Tryd.pinned (OpenSpec.ofChange fnChachaCIDSealWrong)

/-- 'laws.FnCcmOpen': WHATEVER THE INPUT: true; the input reads as it did. -/
def fnCcmOpenSpec : ChangeSpec := { name := "fnCcmOpen", fn := fun _ => fun
  | [d1, d2, d3, d4, d5] => { results := [.lit (.bool true)], args := [d1, d2, d3, d4, d5] }
  | _ => none }
def fnCcmOpenRow : OpenClaim := { program := "ytpedkkmoplbdhaadoor", sum := "ef4dbc7eebc2304172f45dd8708951bef6b6694fa59509b673bfd4103274de19", func := "pub-convoy/laws.FnCcmOpen", spec := "fnCcmOpen", unfollowed := true, recurses := true, named := ["pub-convoy/pub/dtls/pkg/crypto/ccm.errInvalidBlockSize", "pub-convoy/pub/dtls/pkg/crypto/ccm.errInvalidTagSize", "pub-convoy/pub/dtls/pkg/crypto/ccm.errInvalidNonceSize"], apart := false, laid := [("pub-convoy/pub/dtls/pkg/crypto/ccm.errInvalidBlockSize", laid_pub_convoy_pub_dtls_pkg_crypto_ccm_errInvalidBlockSize), ("pub-convoy/pub/dtls/pkg/crypto/ccm.errInvalidTagSize", laid_pub_convoy_pub_dtls_pkg_crypto_ccm_errInvalidTagSize), ("pub-convoy/pub/dtls/pkg/crypto/ccm.errInvalidNonceSize", laid_pub_convoy_pub_dtls_pkg_crypto_ccm_errInvalidNonceSize)] }
def FnCcmOpenSaid : Prop := fnCcmOpenRow.holds Tryd.pinned (OpenSpec.ofChange fnCcmOpenSpec)

/-- ITS FALSE NEIGHBOUR: 'it returns false'. Refute it at one input. -/
def fnCcmOpenWrong : ChangeSpec := { name := "fnCcmOpen", fn := fun _ => fun
  | [d1, d2, d3, d4, d5] => { results := [.lit (.bool false)], args := [d1, d2, d3, d4, d5] }
  | _ => none }
def FnCcmOpenWrongFalsely : Prop := fnCcmOpenRow.holds Tryd.pinned (OpenSpec.ofChange fnCcmOpenWrong)

/-- 'laws.FnAeadOpen': WHATEVER THE INPUT: true; the input reads as it did. -/
def fnAeadOpenSpec : ChangeSpec := { name := "fnAeadOpen", fn := fun _ => fun
  | [d1, d2, d3, d4, d5] => { results := [.lit (.bool true)], args := [d1, d2, d3, d4, d5] }
  | _ => none }
def fnAeadOpenRow : OpenClaim := { program := "ytpedkkmoplbdhaadoor", sum := "ef4dbc7eebc2304172f45dd8708951bef6b6694fa59509b673bfd4103274de19", func := "pub-convoy/laws.FnAeadOpen", spec := "fnAeadOpen", unfollowed := true, recurses := true, named := ["pub-convoy/pub/dtls/pkg/protocol/recordlayer.errSequenceNumberOverflow", "encoding/binary.BigEndian", "pub-convoy/pub/dtls/pkg/crypto/ciphersuite.errNotEnoughRoomForNonce", "pub-convoy/pub/dtls/pkg/crypto/ciphersuite.errDecryptPacket", "pub-convoy/pub/dtls/pkg/protocol/recordlayer.errBufferTooSmall", "pub-convoy/pub/dtls/pkg/protocol.Version1_0", "pub-convoy/pub/dtls/pkg/protocol.Version1_2", "pub-convoy/pub/dtls/pkg/protocol/recordlayer.errUnsupportedProtocolVersion"], apart := false, laid := [("pub-convoy/pub/dtls/pkg/protocol.Version1_0", laid_pub_convoy_pub_dtls_pkg_protocol_Version1_0), ("pub-convoy/pub/dtls/pkg/protocol.Version1_2", laid_pub_convoy_pub_dtls_pkg_protocol_Version1_2), ("pub-convoy/pub/dtls/pkg/protocol/recordlayer.errBufferTooSmall", laid_pub_convoy_pub_dtls_pkg_protocol_recordlayer_errBufferTooSmall), ("pub-convoy/pub/dtls/pkg/protocol/recordlayer.errSequenceNumberOverflow", laid_pub_convoy_pub_dtls_pkg_protocol_recordlayer_errSequenceNumberOverflow), ("pub-convoy/pub/dtls/pkg/protocol/recordlayer.errUnsupportedProtocolVersion", laid_pub_convoy_pub_dtls_pkg_protocol_recordlayer_errUnsupportedProtocolVersion), ("pub-convoy/pub/dtls/pkg/crypto/ciphersuite.errNotEnoughRoomForNonce", laid_pub_convoy_pub_dtls_pkg_crypto_ciphersuite_errNotEnoughRoomForNonce), ("pub-convoy/pub/dtls/pkg/crypto/ciphersuite.errDecryptPacket", laid_pub_convoy_pub_dtls_pkg_crypto_ciphersuite_errDecryptPacket)] }
def FnAeadOpenSaid : Prop := fnAeadOpenRow.holds Tryd.pinned (OpenSpec.ofChange fnAeadOpenSpec)

/-- ITS FALSE NEIGHBOUR: 'it returns false'. Refute it at one input. -/
def fnAeadOpenWrong : ChangeSpec := { name := "fnAeadOpen", fn := fun _ => fun
  | [d1, d2, d3, d4, d5] => { results := [.lit (.bool false)], args := [d1, d2, d3, d4, d5] }
  | _ => none }
def FnAeadOpenWrongFalsely : Prop := fnAeadOpenRow.holds Tryd.pinned (OpenSpec.ofChange fnAeadOpenWrong)

/-- 'laws.FnCbcRoad': WHATEVER THE INPUT: true; the input reads as it did. -/
def fnCbcRoadSpec : ChangeSpec := { name := "fnCbcRoad", fn := fun _ => fun
  | [d1, d2, d3, d4, d5, d6, d7] => { results := [.lit (.bool true)], args := [d1, d2, d3, d4, d5, d6, d7] }
  | _ => none }
def fnCbcRoadRow : OpenClaim := { program := "ytpedkkmoplbdhaadoor", sum := "ef4dbc7eebc2304172f45dd8708951bef6b6694fa59509b673bfd4103274de19", func := "pub-convoy/laws.FnCbcRoad", spec := "fnCbcRoad", inPlace := ["crypto/internal/constanttime.boolToUint8"], unfollowed := true, recurses := true, named := ["pub-convoy/pub/dtls/pkg/protocol/recordlayer.errSequenceNumberOverflow", "encoding/binary.BigEndian", "pub-convoy/pub/dtls/pkg/crypto/ciphersuite.errNotEnoughRoomForNonce", "pub-convoy/pub/dtls/pkg/crypto/ciphersuite.errInvalidMAC", "pub-convoy/pub/dtls/pkg/protocol/recordlayer.errBufferTooSmall", "pub-convoy/pub/dtls/pkg/protocol.Version1_0", "pub-convoy/pub/dtls/pkg/protocol.Version1_2", "pub-convoy/pub/dtls/pkg/protocol/recordlayer.errUnsupportedProtocolVersion"], apart := false, laid := [("pub-convoy/pub/dtls/pkg/protocol.Version1_0", laid_pub_convoy_pub_dtls_pkg_protocol_Version1_0), ("pub-convoy/pub/dtls/pkg/protocol.Version1_2", laid_pub_convoy_pub_dtls_pkg_protocol_Version1_2), ("pub-convoy/pub/dtls/pkg/protocol/recordlayer.errBufferTooSmall", laid_pub_convoy_pub_dtls_pkg_protocol_recordlayer_errBufferTooSmall), ("pub-convoy/pub/dtls/pkg/protocol/recordlayer.errSequenceNumberOverflow", laid_pub_convoy_pub_dtls_pkg_protocol_recordlayer_errSequenceNumberOverflow), ("pub-convoy/pub/dtls/pkg/protocol/recordlayer.errUnsupportedProtocolVersion", laid_pub_convoy_pub_dtls_pkg_protocol_recordlayer_errUnsupportedProtocolVersion), ("pub-convoy/pub/dtls/pkg/crypto/ciphersuite.errNotEnoughRoomForNonce", laid_pub_convoy_pub_dtls_pkg_crypto_ciphersuite_errNotEnoughRoomForNonce), ("pub-convoy/pub/dtls/pkg/crypto/ciphersuite.errInvalidMAC", laid_pub_convoy_pub_dtls_pkg_crypto_ciphersuite_errInvalidMAC)] }
def FnCbcRoadSaid : Prop := fnCbcRoadRow.holds Tryd.pinned (OpenSpec.ofChange fnCbcRoadSpec)

/-- ITS FALSE NEIGHBOUR: 'it returns false'. Refute it at one input. -/
def fnCbcRoadWrong : ChangeSpec := { name := "fnCbcRoad", fn := fun _ => fun
  | [d1, d2, d3, d4, d5, d6, d7] => { results := [.lit (.bool false)], args := [d1, d2, d3, d4, d5, d6, d7] }
  | _ => none }
def FnCbcRoadWrongFalsely : Prop := fnCbcRoadRow.holds Tryd.pinned (OpenSpec.ofChange fnCbcRoadWrong)

/- THE SECOND FORM. 'bulk': how many values and letters a reading holds, each counted each time it is reached (what is shared counts as often as it is met; a slice's spare places count too). A statement '..UptoSaid' is the law's where the arguments, and the package variables that the reading takes, are together of bulk at most 1048576: NARROWER than '..Said'. Prove '..Said' where nothing that the law and all that it calls make is longer than what came in: it says more and counts as full. Else prove '..UptoSaid'. A law counts once. -/
mutual
def uptoBulk {H : Type} : DataW H → Nat
  | .lit (.string bytes) => bytes.length + 1
  | .lit _ => 1
  | .nil => 1
  | .ptr d => uptoBulk d + 1
  | .slice elems spare => uptoBulkAll elems + uptoBulkAll spare + 1
  | .agg parts => uptoBulkAll parts + 1
  | .iface _ d => uptoBulk d + 1
  | .map entries => uptoBulkEntries entries + 1
  | .held _ => 1
def uptoBulkAll {H : Type} : List (DataW H) → Nat
  | [] => 0
  | d :: r => uptoBulk d + uptoBulkAll r
def uptoBulkEntries {H : Type} : List (Lit × DataW H) → Nat
  | [] => 0
  | x :: r => uptoBulkEntry x + uptoBulkEntries r
def uptoBulkEntry {H : Type} : Lit × DataW H → Nat
  | (.string bytes, d) => bytes.length + uptoBulk d + 1
  | (_, d) => uptoBulk d + 1
 end
def uptoSmall : (H : Type) → List (DataW H) → Bool := fun _ ds => decide (uptoBulkAll ds ≤ 1048576)
def OpenSpec.upto (s : _root_.Go.ChangeSpec) : _root_.Go.OpenSpec := { _root_.Go.OpenSpec.ofChange s with cond := some uptoSmall }

/-- 'laws.FnChachaCIDSeal', WHERE WHAT IT READS IS OF BULK AT MOST 1048576: true; the input reads as it did. -/
def fnChachaCIDSealUptoRow : OpenClaim := { program := "ytpedkkmoplbdhaadoor", sum := "ef4dbc7eebc2304172f45dd8708951bef6b6694fa59509b673bfd4103274de19", func := "pub-convoy/laws.FnChachaCIDSeal", spec := "fnChachaCIDSeal", unfollowed := true, recurses := true, named := ["pub-convoy/pub/dtls/pkg/protocol/recordlayer.errSequenceNumberOverflow", "encoding/binary.BigEndian"], apart := false, laid := [("pub-convoy/pub/dtls/pkg/protocol/recordlayer.errSequenceNumberOverflow", laid_pub_convoy_pub_dtls_pkg_protocol_recordlayer_errSequenceNumberOverflow)], narrowed := true }
def FnChachaCIDSealUptoSaid : Prop := fnChachaCIDSealUptoRow.holds Tryd.pinned (OpenSpec.upto fnChachaCIDSealSpec)

/-- 'laws.FnCcmOpen', WHERE WHAT IT READS IS OF BULK AT MOST 1048576: true; the input reads as it did. -/
def fnCcmOpenUptoRow : OpenClaim := { program := "ytpedkkmoplbdhaadoor", sum := "ef4dbc7eebc2304172f45dd8708951bef6b6694fa59509b673bfd4103274de19", func := "pub-convoy/laws.FnCcmOpen", spec := "fnCcmOpen", unfollowed := true, recurses := true, named := ["pub-convoy/pub/dtls/pkg/crypto/ccm.errInvalidBlockSize", "pub-convoy/pub/dtls/pkg/crypto/ccm.errInvalidTagSize", "pub-convoy/pub/dtls/pkg/crypto/ccm.errInvalidNonceSize"], apart := false, laid := [("pub-convoy/pub/dtls/pkg/crypto/ccm.errInvalidBlockSize", laid_pub_convoy_pub_dtls_pkg_crypto_ccm_errInvalidBlockSize), ("pub-convoy/pub/dtls/pkg/crypto/ccm.errInvalidTagSize", laid_pub_convoy_pub_dtls_pkg_crypto_ccm_errInvalidTagSize), ("pub-convoy/pub/dtls/pkg/crypto/ccm.errInvalidNonceSize", laid_pub_convoy_pub_dtls_pkg_crypto_ccm_errInvalidNonceSize)], narrowed := true }
def FnCcmOpenUptoSaid : Prop := fnCcmOpenUptoRow.holds Tryd.pinned (OpenSpec.upto fnCcmOpenSpec)

/-- 'laws.FnAeadOpen', WHERE WHAT IT READS IS OF BULK AT MOST 1048576: true; the input reads as it did. -/
def fnAeadOpenUptoRow : OpenClaim := { program := "ytpedkkmoplbdhaadoor", sum := "ef4dbc7eebc2304172f45dd8708951bef6b6694fa59509b673bfd4103274de19", func := "pub-convoy/laws.FnAeadOpen", spec := "fnAeadOpen", unfollowed := true, recurses := true, named := ["pub-convoy/pub/dtls/pkg/protocol/recordlayer.errSequenceNumberOverflow", "encoding/binary.BigEndian", "pub-convoy/pub/dtls/pkg/crypto/ciphersuite.errNotEnoughRoomForNonce", "pub-convoy/pub/dtls/pkg/crypto/ciphersuite.errDecryptPacket", "pub-convoy/pub/dtls/pkg/protocol/recordlayer.errBufferTooSmall", "pub-convoy/pub/dtls/pkg/protocol.Version1_0", "pub-convoy/pub/dtls/pkg/protocol.Version1_2", "pub-convoy/pub/dtls/pkg/protocol/recordlayer.errUnsupportedProtocolVersion"], apart := false, laid := [("pub-convoy/pub/dtls/pkg/protocol.Version1_0", laid_pub_convoy_pub_dtls_pkg_protocol_Version1_0), ("pub-convoy/pub/dtls/pkg/protocol.Version1_2", laid_pub_convoy_pub_dtls_pkg_protocol_Version1_2), ("pub-convoy/pub/dtls/pkg/protocol/recordlayer.errBufferTooSmall", laid_pub_convoy_pub_dtls_pkg_protocol_recordlayer_errBufferTooSmall), ("pub-convoy/pub/dtls/pkg/protocol/recordlayer.errSequenceNumberOverflow", laid_pub_convoy_pub_dtls_pkg_protocol_recordlayer_errSequenceNumberOverflow), ("pub-convoy/pub/dtls/pkg/protocol/recordlayer.errUnsupportedProtocolVersion", laid_pub_convoy_pub_dtls_pkg_protocol_recordlayer_errUnsupportedProtocolVersion), ("pub-convoy/pub/dtls/pkg/crypto/ciphersuite.errNotEnoughRoomForNonce", laid_pub_convoy_pub_dtls_pkg_crypto_ciphersuite_errNotEnoughRoomForNonce), ("pub-convoy/pub/dtls/pkg/crypto/ciphersuite.errDecryptPacket", laid_pub_convoy_pub_dtls_pkg_crypto_ciphersuite_errDecryptPacket)], narrowed := true }
def FnAeadOpenUptoSaid : Prop := fnAeadOpenUptoRow.holds Tryd.pinned (OpenSpec.upto fnAeadOpenSpec)

/-- 'laws.FnCbcRoad', WHERE WHAT IT READS IS OF BULK AT MOST 1048576: true; the input reads as it did. -/
def fnCbcRoadUptoRow : OpenClaim := { program := "ytpedkkmoplbdhaadoor", sum := "ef4dbc7eebc2304172f45dd8708951bef6b6694fa59509b673bfd4103274de19", func := "pub-convoy/laws.FnCbcRoad", spec := "fnCbcRoad", inPlace := ["crypto/internal/constanttime.boolToUint8"], unfollowed := true, recurses := true, named := ["pub-convoy/pub/dtls/pkg/protocol/recordlayer.errSequenceNumberOverflow", "encoding/binary.BigEndian", "pub-convoy/pub/dtls/pkg/crypto/ciphersuite.errNotEnoughRoomForNonce", "pub-convoy/pub/dtls/pkg/crypto/ciphersuite.errInvalidMAC", "pub-convoy/pub/dtls/pkg/protocol/recordlayer.errBufferTooSmall", "pub-convoy/pub/dtls/pkg/protocol.Version1_0", "pub-convoy/pub/dtls/pkg/protocol.Version1_2", "pub-convoy/pub/dtls/pkg/protocol/recordlayer.errUnsupportedProtocolVersion"], apart := false, laid := [("pub-convoy/pub/dtls/pkg/protocol.Version1_0", laid_pub_convoy_pub_dtls_pkg_protocol_Version1_0), ("pub-convoy/pub/dtls/pkg/protocol.Version1_2", laid_pub_convoy_pub_dtls_pkg_protocol_Version1_2), ("pub-convoy/pub/dtls/pkg/protocol/recordlayer.errBufferTooSmall", laid_pub_convoy_pub_dtls_pkg_protocol_recordlayer_errBufferTooSmall), ("pub-convoy/pub/dtls/pkg/protocol/recordlayer.errSequenceNumberOverflow", laid_pub_convoy_pub_dtls_pkg_protocol_recordlayer_errSequenceNumberOverflow), ("pub-convoy/pub/dtls/pkg/protocol/recordlayer.errUnsupportedProtocolVersion", laid_pub_convoy_pub_dtls_pkg_protocol_recordlayer_errUnsupportedProtocolVersion), ("pub-convoy/pub/dtls/pkg/crypto/ciphersuite.errNotEnoughRoomForNonce", laid_pub_convoy_pub_dtls_pkg_crypto_ciphersuite_errNotEnoughRoomForNonce), ("pub-convoy/pub/dtls/pkg/crypto/ciphersuite.errInvalidMAC", laid_pub_convoy_pub_dtls_pkg_crypto_ciphersuite_errInvalidMAC)], narrowed := true }
def FnCbcRoadUptoSaid : Prop := fnCbcRoadUptoRow.holds Tryd.pinned (OpenSpec.upto fnCbcRoadSpec)

end Rows
end Go.Proofs.YtpedkkmoplbdhaaDoor
