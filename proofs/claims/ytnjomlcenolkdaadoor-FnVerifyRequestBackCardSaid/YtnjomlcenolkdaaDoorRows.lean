/-
  NARROWER THAN 'FOR EVERY INPUT', by the rows' own cells (each row's printed sentence says how): FnAlertRead: laid · FnVerifyRequestBack: laid · FnDatagramBack: laid · FnClientKeyEcdheCut: laid · FnClientKeyPskBack: laid · FnDatagramTwo: laid.
  DERIVED. THE GIVEN ROWS OF THIS SEAT. 6 by the template 'for every input the law returns true; each argument reads behind the call as it read before'; 0 by the template 'total and deterministic' (their statements: YtnjomlcenolkdaaDoorTotals.lean).
  GIVEN WITH THE SEED: the statements are not yours to turn. If you find one false, say at which input.
  Laid BY PROGRAM, IN A SANDBOX (cutbox-rows.mjs): the forced cells as the released guide's own fill.sh prints them over the translation 6bc5e84c252ddcc0… (all of the seat's roots in one cut). By AI agents, Wed Nov 11 2026. No macro, syntax, notation, axiom, sorry.
-/
import Derived.Test.YtnjomlcenolkdaaDoorChecked
import GoSem.Claim
import GoSem.ClaimJoined
import GoSem.ClaimMapViews
import Derived.JoinedTies
import Derived.KernelRfl
namespace Go.Proofs.YtnjomlcenolkdaaDoor
/- THE CELL 'sum', in the pinned program and in every row, IS THE sha256 OF THE DUMP (.gsa) THAT YtnjomlcenolkdaaDoorProg.lean LOADS. Nothing in Lean hashes anything: it is a label: what it is worth is what the hold of that sum in a sandbox is worth. -/
noncomputable def Tryd.pinned : Pinned := { name := "ytnjomlcenolkdaadoor", sum := "6bc5e84c252ddcc03c0c6a5f52bae850398875c4fac9eab91e53f71fc57b363a", checked := Tryd.checked }
namespace Rows
def none {H : Type} : Left H := { results := [], args := [] }

/- WHAT THE LISTED PACKAGE-LEVEL VARIABLES READ AS WHEN THE CALL BEGINS. Each datum BY PROGRAM (the guide's laid-datum.mjs) off the statement by which the dump's own 'gosem.cut.vars' lays the variable. In a bare row this is a premise. The card (YtnjomlcenolkdaaDoorCards.lean) ties it to the program's text. -/
def laid_pub_convoy_pub_dtls_pkg_protocol_alert_errBufferTooSmall {H : Type} : DataW H := .iface "*errors.errorString" (.ptr (.agg [.lit (.string [98, 117, 102, 102, 101, 114, 32, 105, 115, 32, 116, 111, 111, 32, 115, 109, 97, 108, 108])]))
def laid_pub_convoy_pub_dtls_pkg_protocol_handshake_errBufferTooSmall {H : Type} : DataW H := .iface "*errors.errorString" (.ptr (.agg [.lit (.string [98, 117, 102, 102, 101, 114, 32, 105, 115, 32, 116, 111, 111, 32, 115, 109, 97, 108, 108])]))
def laid_pub_convoy_pub_dtls_pkg_protocol_recordlayer_ErrInvalidPacketLength {H : Type} : DataW H := .iface "*errors.errorString" (.ptr (.agg [.lit (.string [112, 97, 99, 107, 101, 116, 32, 108, 101, 110, 103, 116, 104, 32, 97, 110, 100, 32, 100, 101, 99, 108, 97, 114, 101, 100, 32, 108, 101, 110, 103, 116, 104, 32, 100, 111, 32, 110, 111, 116, 32, 109, 97, 116, 99, 104])]))
def laid_pub_convoy_pub_dtls_pkg_protocol_handshake_errCipherSuiteUnset {H : Type} : DataW H := .iface "*errors.errorString" (.ptr (.agg [.lit (.string [115, 101, 114, 118, 101, 114, 32, 104, 101, 108, 108, 111, 32, 99, 97, 110, 32, 110, 111, 116, 32, 98, 101, 32, 99, 114, 101, 97, 116, 101, 100, 32, 119, 105, 116, 104, 111, 117, 116, 32, 97, 32, 99, 105, 112, 104, 101, 114, 32, 115, 117, 105, 116, 101])]))

/-- 'laws.FnAlertRead': WHATEVER THE INPUT: true; the input reads as it did. -/
def fnAlertReadSpec : ChangeSpec := { name := "fnAlertRead", fn := fun _ => fun
  | [d] => { results := [.lit (.bool true)], args := [d] }
  | _ => none }
def fnAlertReadRow : OpenClaim := { program := "ytnjomlcenolkdaadoor", sum := "6bc5e84c252ddcc03c0c6a5f52bae850398875c4fac9eab91e53f71fc57b363a", func := "pub-convoy/laws.FnAlertRead", spec := "fnAlertRead", named := ["pub-convoy/pub/dtls/pkg/protocol/alert.errBufferTooSmall"], apart := false, laid := [("pub-convoy/pub/dtls/pkg/protocol/alert.errBufferTooSmall", laid_pub_convoy_pub_dtls_pkg_protocol_alert_errBufferTooSmall)] }
def FnAlertReadSaid : Prop := fnAlertReadRow.holds Tryd.pinned (OpenSpec.ofChange fnAlertReadSpec)

/-- ITS FALSE NEIGHBOUR: 'it returns false'. Refute it at one input. -/
def fnAlertReadWrong : ChangeSpec := { name := "fnAlertRead", fn := fun _ => fun
  | [d] => { results := [.lit (.bool false)], args := [d] }
  | _ => none }
def FnAlertReadWrongFalsely : Prop := fnAlertReadRow.holds Tryd.pinned (OpenSpec.ofChange fnAlertReadWrong)

/-- 'laws.FnVerifyRequestBack': WHATEVER THE INPUT: true; the input reads as it did. -/
def fnVerifyRequestBackSpec : ChangeSpec := { name := "fnVerifyRequestBack", fn := fun _ => fun
  | [d] => { results := [.lit (.bool true)], args := [d] }
  | _ => none }
def fnVerifyRequestBackRow : OpenClaim := { program := "ytnjomlcenolkdaadoor", sum := "6bc5e84c252ddcc03c0c6a5f52bae850398875c4fac9eab91e53f71fc57b363a", func := "pub-convoy/laws.FnVerifyRequestBack", spec := "fnVerifyRequestBack", unfollowed := true, recurses := true, named := ["pub-convoy/pub/dtls/pkg/protocol/handshake.errBufferTooSmall"], apart := false, laid := [("pub-convoy/pub/dtls/pkg/protocol/handshake.errBufferTooSmall", laid_pub_convoy_pub_dtls_pkg_protocol_handshake_errBufferTooSmall)] }
def FnVerifyRequestBackSaid : Prop := fnVerifyRequestBackRow.holds Tryd.pinned (OpenSpec.ofChange fnVerifyRequestBackSpec)

/-- ITS FALSE NEIGHBOUR: 'it returns false'. Refute it at one input. -/
def fnVerifyRequestBackWrong : ChangeSpec := { name := "fnVerifyRequestBack", fn := fun _ => fun
  | [d] => { results := [.lit (.bool false)], args := [d] }
  | _ => none }
def FnVerifyRequestBackWrongFalsely : Prop := fnVerifyRequestBackRow.holds Tryd.pinned (OpenSpec.ofChange fnVerifyRequestBackWrong)

/-- 'laws.FnDatagramBack': WHATEVER THE INPUT: true; the input reads as it did. -/
def fnDatagramBackSpec : ChangeSpec := { name := "fnDatagramBack", fn := fun _ => fun
  | [d1, d2, d3] => { results := [.lit (.bool true)], args := [d1, d2, d3] }
  | _ => none }
def fnDatagramBackRow : OpenClaim := { program := "ytnjomlcenolkdaadoor", sum := "6bc5e84c252ddcc03c0c6a5f52bae850398875c4fac9eab91e53f71fc57b363a", func := "pub-convoy/laws.FnDatagramBack", spec := "fnDatagramBack", named := ["pub-convoy/pub/dtls/pkg/protocol/recordlayer.ErrInvalidPacketLength", "encoding/binary.BigEndian"], apart := false, laid := [("pub-convoy/pub/dtls/pkg/protocol/recordlayer.ErrInvalidPacketLength", laid_pub_convoy_pub_dtls_pkg_protocol_recordlayer_ErrInvalidPacketLength)] }
def FnDatagramBackSaid : Prop := fnDatagramBackRow.holds Tryd.pinned (OpenSpec.ofChange fnDatagramBackSpec)

/-- ITS FALSE NEIGHBOUR: 'it returns false'. Refute it at one input. -/
def fnDatagramBackWrong : ChangeSpec := { name := "fnDatagramBack", fn := fun _ => fun
  | [d1, d2, d3] => { results := [.lit (.bool false)], args := [d1, d2, d3] }
  | _ => none }
def FnDatagramBackWrongFalsely : Prop := fnDatagramBackRow.holds Tryd.pinned (OpenSpec.ofChange fnDatagramBackWrong)

/-- 'laws.FnClientKeyEcdheCut': WHATEVER THE INPUT: true; the input reads as it did. -/
def fnClientKeyEcdheCutSpec : ChangeSpec := { name := "fnClientKeyEcdheCut", fn := fun _ => fun
  | [d1, d2] => { results := [.lit (.bool true)], args := [d1, d2] }
  | _ => none }
def fnClientKeyEcdheCutRow : OpenClaim := { program := "ytnjomlcenolkdaadoor", sum := "6bc5e84c252ddcc03c0c6a5f52bae850398875c4fac9eab91e53f71fc57b363a", func := "pub-convoy/laws.FnClientKeyEcdheCut", spec := "fnClientKeyEcdheCut", named := ["pub-convoy/pub/dtls/pkg/protocol/handshake.errBufferTooSmall", "pub-convoy/pub/dtls/pkg/protocol/handshake.errCipherSuiteUnset", "encoding/binary.BigEndian"], apart := false, laid := [("pub-convoy/pub/dtls/pkg/protocol/handshake.errBufferTooSmall", laid_pub_convoy_pub_dtls_pkg_protocol_handshake_errBufferTooSmall), ("pub-convoy/pub/dtls/pkg/protocol/handshake.errCipherSuiteUnset", laid_pub_convoy_pub_dtls_pkg_protocol_handshake_errCipherSuiteUnset)] }
def FnClientKeyEcdheCutSaid : Prop := fnClientKeyEcdheCutRow.holds Tryd.pinned (OpenSpec.ofChange fnClientKeyEcdheCutSpec)

/-- ITS FALSE NEIGHBOUR: 'it returns false'. Refute it at one input. -/
def fnClientKeyEcdheCutWrong : ChangeSpec := { name := "fnClientKeyEcdheCut", fn := fun _ => fun
  | [d1, d2] => { results := [.lit (.bool false)], args := [d1, d2] }
  | _ => none }
def FnClientKeyEcdheCutWrongFalsely : Prop := fnClientKeyEcdheCutRow.holds Tryd.pinned (OpenSpec.ofChange fnClientKeyEcdheCutWrong)

/-- 'laws.FnClientKeyPskBack': WHATEVER THE INPUT: true; the input reads as it did. -/
def fnClientKeyPskBackSpec : ChangeSpec := { name := "fnClientKeyPskBack", fn := fun _ => fun
  | [d] => { results := [.lit (.bool true)], args := [d] }
  | _ => none }
def fnClientKeyPskBackRow : OpenClaim := { program := "ytnjomlcenolkdaadoor", sum := "6bc5e84c252ddcc03c0c6a5f52bae850398875c4fac9eab91e53f71fc57b363a", func := "pub-convoy/laws.FnClientKeyPskBack", spec := "fnClientKeyPskBack", unfollowed := true, recurses := true, named := ["pub-convoy/pub/dtls/pkg/protocol/handshake.errBufferTooSmall", "pub-convoy/pub/dtls/pkg/protocol/handshake.errCipherSuiteUnset", "encoding/binary.BigEndian"], apart := false, laid := [("pub-convoy/pub/dtls/pkg/protocol/handshake.errBufferTooSmall", laid_pub_convoy_pub_dtls_pkg_protocol_handshake_errBufferTooSmall), ("pub-convoy/pub/dtls/pkg/protocol/handshake.errCipherSuiteUnset", laid_pub_convoy_pub_dtls_pkg_protocol_handshake_errCipherSuiteUnset)] }
def FnClientKeyPskBackSaid : Prop := fnClientKeyPskBackRow.holds Tryd.pinned (OpenSpec.ofChange fnClientKeyPskBackSpec)

/-- ITS FALSE NEIGHBOUR: 'it returns false'. Refute it at one input. -/
def fnClientKeyPskBackWrong : ChangeSpec := { name := "fnClientKeyPskBack", fn := fun _ => fun
  | [d] => { results := [.lit (.bool false)], args := [d] }
  | _ => none }
def FnClientKeyPskBackWrongFalsely : Prop := fnClientKeyPskBackRow.holds Tryd.pinned (OpenSpec.ofChange fnClientKeyPskBackWrong)

/-- 'laws.FnDatagramTwo': WHATEVER THE INPUT: true; the input reads as it did. -/
def fnDatagramTwoSpec : ChangeSpec := { name := "fnDatagramTwo", fn := fun _ => fun
  | [d] => { results := [.lit (.bool true)], args := [d] }
  | _ => none }
def fnDatagramTwoRow : OpenClaim := { program := "ytnjomlcenolkdaadoor", sum := "6bc5e84c252ddcc03c0c6a5f52bae850398875c4fac9eab91e53f71fc57b363a", func := "pub-convoy/laws.FnDatagramTwo", spec := "fnDatagramTwo", named := ["pub-convoy/pub/dtls/pkg/protocol/recordlayer.ErrInvalidPacketLength", "encoding/binary.BigEndian"], apart := false, laid := [("pub-convoy/pub/dtls/pkg/protocol/recordlayer.ErrInvalidPacketLength", laid_pub_convoy_pub_dtls_pkg_protocol_recordlayer_ErrInvalidPacketLength)] }
def FnDatagramTwoSaid : Prop := fnDatagramTwoRow.holds Tryd.pinned (OpenSpec.ofChange fnDatagramTwoSpec)

/-- ITS FALSE NEIGHBOUR: 'it returns false'. Refute it at one input. -/
def fnDatagramTwoWrong : ChangeSpec := { name := "fnDatagramTwo", fn := fun _ => fun
  | [d] => { results := [.lit (.bool false)], args := [d] }
  | _ => none }
def FnDatagramTwoWrongFalsely : Prop := fnDatagramTwoRow.holds Tryd.pinned (OpenSpec.ofChange fnDatagramTwoWrong)

/- THE SECOND FORM. 'bulk': how many values and letters a reading holds, each counted each time it is reached (what is shared counts as often as it is met; a slice's spare places count too). A statement '..UptoSaid' is the law's where the arguments, and the package variables that the reading takes, are together of bulk at most 1048576: NARROWER than '..Said'. Prove '..Said' where nothing that the law and all that it calls make is longer than what came in: it says more and counts as full. Else prove '..UptoSaid'. A law counts once. -/
mutual
def uptoBulk {H : Type} : DataW H → Nat
  | .lit (.string bytes) => bytes.length + 1
  | .lit _ => 1
  | .nil => 1
  | .ptr d => uptoBulk d + 1
  | .slice elems spare => uptoBulkAll elems + uptoBulkAll spare + 1
  | .agg parts => uptoBulkAll parts + 1
  | .iface _ d => uptoBulk d + 1
  | .map entries => uptoBulkEntries entries + 1
  | .held _ => 1
def uptoBulkAll {H : Type} : List (DataW H) → Nat
  | [] => 0
  | d :: r => uptoBulk d + uptoBulkAll r
def uptoBulkEntries {H : Type} : List (Lit × DataW H) → Nat
  | [] => 0
  | x :: r => uptoBulkEntry x + uptoBulkEntries r
def uptoBulkEntry {H : Type} : Lit × DataW H → Nat
  | (.string bytes, d) => bytes.length + uptoBulk d + 1
  | (_, d) => uptoBulk d + 1
 end
def uptoSmall : (H : Type) → List (DataW H) → Bool := fun _ ds => decide (uptoBulkAll ds ≤ 1048576)
def OpenSpec.upto (s : _root_.Go.ChangeSpec) : _root_.Go.OpenSpec := { _root_.Go.OpenSpec.ofChange s with cond := some uptoSmall }

/-- 'laws.FnAlertRead', WHERE WHAT IT READS IS OF BULK AT MOST 1048576: true; the input reads as it did. -/
def fnAlertReadUptoRow : OpenClaim := { program := "ytnjomlcenolkdaadoor", sum := "6bc5e84c252ddcc03c0c6a5f52bae850398875c4fac9eab91e53f71fc57b363a", func := "pub-convoy/laws.FnAlertRead", spec := "fnAlertRead", named := ["pub-convoy/pub/dtls/pkg/protocol/alert.errBufferTooSmall"], apart := false, laid := [("pub-convoy/pub/dtls/pkg/protocol/alert.errBufferTooSmall", laid_pub_convoy_pub_dtls_pkg_protocol_alert_errBufferTooSmall)], narrowed := true }
def FnAlertReadUptoSaid : Prop := fnAlertReadUptoRow.holds Tryd.pinned (OpenSpec.upto fnAlertReadSpec)

/-- 'laws.FnVerifyRequestBack', WHERE WHAT IT READS IS OF BULK AT MOST 1048576: true; the input reads as it did. -/
def fnVerifyRequestBackUptoRow : OpenClaim := { program := "ytnjomlcenolkdaadoor", sum := "6bc5e84c252ddcc03c0c6a5f52bae850398875c4fac9eab91e53f71fc57b363a", func := "pub-convoy/laws.FnVerifyRequestBack", spec := "fnVerifyRequestBack", unfollowed := true, recurses := true, named := ["pub-convoy/pub/dtls/pkg/protocol/handshake.errBufferTooSmall"], apart := false, laid := [("pub-convoy/pub/dtls/pkg/protocol/handshake.errBufferTooSmall", laid_pub_convoy_pub_dtls_pkg_protocol_handshake_errBufferTooSmall)], narrowed := true }
def FnVerifyRequestBackUptoSaid : Prop := fnVerifyRequestBackUptoRow.holds Tryd.pinned (OpenSpec.upto fnVerifyRequestBackSpec)

/-- 'laws.FnDatagramBack', WHERE WHAT IT READS IS OF BULK AT MOST 1048576: true; the input reads as it did. -/
def fnDatagramBackUptoRow : OpenClaim := { program := "ytnjomlcenolkdaadoor", sum := "6bc5e84c252ddcc03c0c6a5f52bae850398875c4fac9eab91e53f71fc57b363a", func := "pub-convoy/laws.FnDatagramBack", spec := "fnDatagramBack", named := ["pub-convoy/pub/dtls/pkg/protocol/recordlayer.ErrInvalidPacketLength", "encoding/binary.BigEndian"], apart := false, laid := [("pub-convoy/pub/dtls/pkg/protocol/recordlayer.ErrInvalidPacketLength", laid_pub_convoy_pub_dtls_pkg_protocol_recordlayer_ErrInvalidPacketLength)], narrowed := true }
def FnDatagramBackUptoSaid : Prop := fnDatagramBackUptoRow.holds Tryd.pinned (OpenSpec.upto fnDatagramBackSpec)

/-- 'laws.FnClientKeyEcdheCut', WHERE WHAT IT READS IS OF BULK AT MOST 1048576: true; the input reads as it did. -/
def fnClientKeyEcdheCutUptoRow : OpenClaim := { program := "ytnjomlcenolkdaadoor", sum := "6bc5e84c252ddcc03c0c6a5f52bae850398875c4fac9eab91e53f71fc57b363a", func := "pub-convoy/laws.FnClientKeyEcdheCut", spec := "fnClientKeyEcdheCut", named := ["pub-convoy/pub/dtls/pkg/protocol/handshake.errBufferTooSmall", "pub-convoy/pub/dtls/pkg/protocol/handshake.errCipherSuiteUnset", "encoding/binary.BigEndian"], apart := false, laid := [("pub-convoy/pub/dtls/pkg/protocol/handshake.errBufferTooSmall", laid_pub_convoy_pub_dtls_pkg_protocol_handshake_errBufferTooSmall), ("pub-convoy/pub/dtls/pkg/protocol/handshake.errCipherSuiteUnset", laid_pub_convoy_pub_dtls_pkg_protocol_handshake_errCipherSuiteUnset)], narrowed := true }
def FnClientKeyEcdheCutUptoSaid : Prop := fnClientKeyEcdheCutUptoRow.holds Tryd.pinned (OpenSpec.upto fnClientKeyEcdheCutSpec)

/-- 'laws.FnClientKeyPskBack', WHERE WHAT IT READS IS OF BULK AT MOST 1048576: true; the input reads as it did. -/
def fnClientKeyPskBackUptoRow : OpenClaim := { program := "ytnjomlcenolkdaadoor", sum := "6bc5e84c252ddcc03c0c6a5f52bae850398875c4fac9eab91e53f71fc57b363a", func := "pub-convoy/laws.FnClientKeyPskBack", spec := "fnClientKeyPskBack", unfollowed := true, recurses := true, named := ["pub-convoy/pub/dtls/pkg/protocol/handshake.errBufferTooSmall", "pub-convoy/pub/dtls/pkg/protocol/handshake.errCipherSuiteUnset", "encoding/binary.BigEndian"], apart := false, laid := [("pub-convoy/pub/dtls/pkg/protocol/handshake.errBufferTooSmall", laid_pub_convoy_pub_dtls_pkg_protocol_handshake_errBufferTooSmall), ("pub-convoy/pub/dtls/pkg/protocol/handshake.errCipherSuiteUnset", laid_pub_convoy_pub_dtls_pkg_protocol_handshake_errCipherSuiteUnset)], narrowed := true }
def FnClientKeyPskBackUptoSaid : Prop := fnClientKeyPskBackUptoRow.holds Tryd.pinned (OpenSpec.upto fnClientKeyPskBackSpec)

/-- 'laws.FnDatagramTwo', WHERE WHAT IT READS IS OF BULK AT MOST 1048576: true; the input reads as it did. -/
def fnDatagramTwoUptoRow : OpenClaim := { program := "ytnjomlcenolkdaadoor", sum := "6bc5e84c252ddcc03c0c6a5f52bae850398875c4fac9eab91e53f71fc57b363a", func := "pub-convoy/laws.FnDatagramTwo", spec := "fnDatagramTwo", named := ["pub-convoy/pub/dtls/pkg/protocol/recordlayer.ErrInvalidPacketLength", "encoding/binary.BigEndian"], apart := false, laid := [("pub-convoy/pub/dtls/pkg/protocol/recordlayer.ErrInvalidPacketLength", laid_pub_convoy_pub_dtls_pkg_protocol_recordlayer_ErrInvalidPacketLength)], narrowed := true }
def FnDatagramTwoUptoSaid : Prop := fnDatagramTwoUptoRow.holds Tryd.pinned (OpenSpec.upto fnDatagramTwoSpec)

end Rows
end Go.Proofs.YtnjomlcenolkdaaDoor
