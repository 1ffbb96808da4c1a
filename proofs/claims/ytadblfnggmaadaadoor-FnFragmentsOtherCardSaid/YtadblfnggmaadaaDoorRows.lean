/-
  NARROWER THAN 'FOR EVERY INPUT', by the rows' own cells (each row's printed sentence says how): FnRanges: laid · FnFragmentsOther: laid · FnFragmentsWhole: laid.
  DERIVED. THE GIVEN ROWS OF THIS SEAT. 3 by the template 'for every input the law returns true; each argument reads behind the call as it read before'; 0 by the template 'total and deterministic' (their statements: YtadblfnggmaadaaDoorTotals.lean).
  GIVEN WITH THE SEED: the statements are not yours to turn. If you find one false, say at which input.
  Laid BY PROGRAM, IN A SANDBOX (cutbox-rows.mjs): the forced cells as the released guide's own fill.sh prints them over the translation 15ce456717dee827… (all of the seat's roots in one cut). By AI agents, Wed Nov 11 2026. No macro, syntax, notation, axiom, sorry.
-/
import Derived.Test.YtadblfnggmaadaaDoorChecked
import GoSem.Claim
import GoSem.ClaimJoined
import GoSem.ClaimMapViews
import Derived.JoinedTies
import Derived.KernelRfl
namespace Go.Proofs.YtadblfnggmaadaaDoor
/- THE CELL 'sum', in the pinned program and in every row, IS THE sha256 OF THE DUMP (.gsa) THAT YtadblfnggmaadaaDoorProg.lean LOADS. Nothing in Lean hashes anything: it is a label: what it is worth is what the hold of that sum in a sandbox is worth. -/
noncomputable def Tryd.pinned : Pinned := { name := "ytadblfnggmaadaadoor", sum := "15ce456717dee82740f359be34bc8ca8185a4829f6f43da7de29cdbc5d64bb2b", checked := Tryd.checked }
namespace Rows
def none {H : Type} : Left H := { results := [], args := [] }

/- WHAT THE LISTED PACKAGE-LEVEL VARIABLES READ AS WHEN THE CALL BEGINS. Each datum BY PROGRAM (the guide's laid-datum.mjs) off the statement by which the dump's own 'gosem.cut.vars' lays the variable. In a bare row this is a premise. The card (YtadblfnggmaadaaDoorCards.lean) ties it to the program's text. -/
def laid_pub_convoy_pub_dtls_errFragmentBufferOverflow {H : Type} : DataW H := .iface "*errors.errorString" (.ptr (.agg [.lit (.string [102, 114, 97, 103, 109, 101, 110, 116, 32, 98, 117, 102, 102, 101, 114, 32, 111, 118, 101, 114, 102, 108, 111, 119])]))
def laid_pub_convoy_pub_dtls_pkg_protocol_Version1_0 {H : Type} : DataW H := .agg [.lit (.int .u8 254), .lit (.int .u8 255)]
def laid_pub_convoy_pub_dtls_pkg_protocol_Version1_2 {H : Type} : DataW H := .agg [.lit (.int .u8 254), .lit (.int .u8 253)]
def laid_pub_convoy_pub_dtls_pkg_protocol_handshake_errBufferTooSmall {H : Type} : DataW H := .iface "*errors.errorString" (.ptr (.agg [.lit (.string [98, 117, 102, 102, 101, 114, 32, 105, 115, 32, 116, 111, 111, 32, 115, 109, 97, 108, 108])]))
def laid_pub_convoy_pub_dtls_pkg_protocol_recordlayer_errBufferTooSmall {H : Type} : DataW H := .iface "*errors.errorString" (.ptr (.agg [.lit (.string [98, 117, 102, 102, 101, 114, 32, 105, 115, 32, 116, 111, 111, 32, 115, 109, 97, 108, 108])]))
def laid_pub_convoy_pub_dtls_pkg_protocol_recordlayer_errUnsupportedProtocolVersion {H : Type} : DataW H := .iface "*errors.errorString" (.ptr (.agg [.lit (.string [117, 110, 115, 117, 112, 112, 111, 114, 116, 101, 100, 32, 112, 114, 111, 116, 111, 99, 111, 108, 32, 118, 101, 114, 115, 105, 111, 110])]))
def laid_pub_convoy_pub_dtls_errBufferTooSmall {H : Type} : DataW H := .iface "*errors.errorString" (.ptr (.agg [.lit (.string [98, 117, 102, 102, 101, 114, 32, 105, 115, 32, 116, 111, 111, 32, 115, 109, 97, 108, 108])]))

/-- 'laws.FnRanges': WHATEVER THE INPUT: true; the input reads as it did. -/
def fnRangesSpec : ChangeSpec := { name := "fnRanges", fn := fun _ => fun
  | [d1, d2, d3] => { results := [.lit (.bool true)], args := [d1, d2, d3] }
  | _ => none }
def fnRangesRow : OpenClaim := { program := "ytadblfnggmaadaadoor", sum := "15ce456717dee82740f359be34bc8ca8185a4829f6f43da7de29cdbc5d64bb2b", func := "pub-convoy/laws.FnRanges", spec := "fnRanges", inPlace := ["slices.overlaps[pub-convoy/pub/dtls.fragmentRange]"], unfollowed := true, recurses := true, named := ["pub-convoy/pub/dtls.errFragmentBufferOverflow"], apart := false, laid := [("pub-convoy/pub/dtls.errFragmentBufferOverflow", laid_pub_convoy_pub_dtls_errFragmentBufferOverflow)] }
def FnRangesSaid : Prop := fnRangesRow.holds Tryd.pinned (OpenSpec.ofChange fnRangesSpec)

/-- ITS FALSE NEIGHBOUR: 'it returns false'. Refute it at one input. -/
def fnRangesWrong : ChangeSpec := { name := "fnRanges", fn := fun _ => fun
  | [d1, d2, d3] => { results := [.lit (.bool false)], args := [d1, d2, d3] }
  | _ => none }
def FnRangesWrongFalsely : Prop := fnRangesRow.holds Tryd.pinned (OpenSpec.ofChange fnRangesWrong)

/-- 'laws.FnFragmentsOther': WHATEVER THE INPUT: true; the input reads as it did. -/
def fnFragmentsOtherSpec : ChangeSpec := { name := "fnFragmentsOther", fn := fun _ => fun
  | [d1, d2, d3, d4] => { results := [.lit (.bool true)], args := [d1, d2, d3, d4] }
  | _ => none }
def fnFragmentsOtherRow : OpenClaim := { program := "ytadblfnggmaadaadoor", sum := "15ce456717dee82740f359be34bc8ca8185a4829f6f43da7de29cdbc5d64bb2b", func := "pub-convoy/laws.FnFragmentsOther", spec := "fnFragmentsOther", inPlace := ["slices.overlaps[pub-convoy/pub/dtls.fragmentRange]"], unfollowed := true, recurses := true, named := ["pub-convoy/pub/dtls.errFragmentBufferOverflow", "pub-convoy/pub/dtls.errBufferTooSmall", "pub-convoy/pub/dtls/pkg/protocol/recordlayer.errBufferTooSmall", "encoding/binary.BigEndian", "pub-convoy/pub/dtls/pkg/protocol.Version1_0", "pub-convoy/pub/dtls/pkg/protocol.Version1_2", "pub-convoy/pub/dtls/pkg/protocol/recordlayer.errUnsupportedProtocolVersion", "pub-convoy/pub/dtls/pkg/protocol/handshake.errBufferTooSmall"], apart := false, laid := [("pub-convoy/pub/dtls/pkg/protocol.Version1_0", laid_pub_convoy_pub_dtls_pkg_protocol_Version1_0), ("pub-convoy/pub/dtls/pkg/protocol.Version1_2", laid_pub_convoy_pub_dtls_pkg_protocol_Version1_2), ("pub-convoy/pub/dtls/pkg/protocol/handshake.errBufferTooSmall", laid_pub_convoy_pub_dtls_pkg_protocol_handshake_errBufferTooSmall), ("pub-convoy/pub/dtls/pkg/protocol/recordlayer.errBufferTooSmall", laid_pub_convoy_pub_dtls_pkg_protocol_recordlayer_errBufferTooSmall), ("pub-convoy/pub/dtls/pkg/protocol/recordlayer.errUnsupportedProtocolVersion", laid_pub_convoy_pub_dtls_pkg_protocol_recordlayer_errUnsupportedProtocolVersion), ("pub-convoy/pub/dtls.errBufferTooSmall", laid_pub_convoy_pub_dtls_errBufferTooSmall), ("pub-convoy/pub/dtls.errFragmentBufferOverflow", laid_pub_convoy_pub_dtls_errFragmentBufferOverflow)] }
def FnFragmentsOtherSaid : Prop := fnFragmentsOtherRow.holds Tryd.pinned (OpenSpec.ofChange fnFragmentsOtherSpec)

/-- ITS FALSE NEIGHBOUR: 'it returns false'. Refute it at one input. -/
def fnFragmentsOtherWrong : ChangeSpec := { name := "fnFragmentsOther", fn := fun _ => fun
  | [d1, d2, d3, d4] => { results := [.lit (.bool false)], args := [d1, d2, d3, d4] }
  | _ => none }
def FnFragmentsOtherWrongFalsely : Prop := fnFragmentsOtherRow.holds Tryd.pinned (OpenSpec.ofChange fnFragmentsOtherWrong)

/-- 'laws.FnFragmentsWhole': WHATEVER THE INPUT: true; the input reads as it did. -/
def fnFragmentsWholeSpec : ChangeSpec := { name := "fnFragmentsWhole", fn := fun _ => fun
  | [d1, d2] => { results := [.lit (.bool true)], args := [d1, d2] }
  | _ => none }
def fnFragmentsWholeRow : OpenClaim := { program := "ytadblfnggmaadaadoor", sum := "15ce456717dee82740f359be34bc8ca8185a4829f6f43da7de29cdbc5d64bb2b", func := "pub-convoy/laws.FnFragmentsWhole", spec := "fnFragmentsWhole", inPlace := ["slices.overlaps[pub-convoy/pub/dtls.fragmentRange]"], unfollowed := true, recurses := true, named := ["pub-convoy/pub/dtls.errFragmentBufferOverflow", "pub-convoy/pub/dtls.errBufferTooSmall", "pub-convoy/pub/dtls/pkg/protocol/recordlayer.errBufferTooSmall", "encoding/binary.BigEndian", "pub-convoy/pub/dtls/pkg/protocol.Version1_0", "pub-convoy/pub/dtls/pkg/protocol.Version1_2", "pub-convoy/pub/dtls/pkg/protocol/recordlayer.errUnsupportedProtocolVersion", "pub-convoy/pub/dtls/pkg/protocol/handshake.errBufferTooSmall"], apart := false, laid := [("pub-convoy/pub/dtls/pkg/protocol.Version1_0", laid_pub_convoy_pub_dtls_pkg_protocol_Version1_0), ("pub-convoy/pub/dtls/pkg/protocol.Version1_2", laid_pub_convoy_pub_dtls_pkg_protocol_Version1_2), ("pub-convoy/pub/dtls/pkg/protocol/handshake.errBufferTooSmall", laid_pub_convoy_pub_dtls_pkg_protocol_handshake_errBufferTooSmall), ("pub-convoy/pub/dtls/pkg/protocol/recordlayer.errBufferTooSmall", laid_pub_convoy_pub_dtls_pkg_protocol_recordlayer_errBufferTooSmall), ("pub-convoy/pub/dtls/pkg/protocol/recordlayer.errUnsupportedProtocolVersion", laid_pub_convoy_pub_dtls_pkg_protocol_recordlayer_errUnsupportedProtocolVersion), ("pub-convoy/pub/dtls.errBufferTooSmall", laid_pub_convoy_pub_dtls_errBufferTooSmall), ("pub-convoy/pub/dtls.errFragmentBufferOverflow", laid_pub_convoy_pub_dtls_errFragmentBufferOverflow)] }
def FnFragmentsWholeSaid : Prop := fnFragmentsWholeRow.holds Tryd.pinned (OpenSpec.ofChange fnFragmentsWholeSpec)

/-- ITS FALSE NEIGHBOUR: 'it returns false'. Refute it at one input. -/
def fnFragmentsWholeWrong : ChangeSpec := { name := "fnFragmentsWhole", fn := fun _ => fun
  | [d1, d2] => { results := [.lit (.bool false)], args := [d1, d2] }
  | _ => none }
def FnFragmentsWholeWrongFalsely : Prop := fnFragmentsWholeRow.holds Tryd.pinned (OpenSpec.ofChange fnFragmentsWholeWrong)

/- THE SECOND FORM. 'bulk': how many values and letters a reading holds, each counted each time it is reached (what is shared counts as often as it is met; a slice's spare places count too). A statement '..UptoSaid' is the law's where the arguments, and the package variables that the reading takes, are together of bulk at most 1048576: NARROWER than '..Said'. Prove '..Said' where nothing that the law and all that it calls make is longer than what came in: it says more and counts as full. Else prove '..UptoSaid'. A law counts once. -/
mutual
def uptoBulk {H : Type} : DataW H → Nat
  | .lit (.string bytes) => bytes.length + 1
  | .lit _ => 1
  | .nil => 1
  | .ptr d => uptoBulk d + 1
  | .slice elems spare => uptoBulkAll elems + uptoBulkAll spare + 1
  | .agg parts => uptoBulkAll parts + 1
  | .iface _ d => uptoBulk d + 1
  | .map entries => uptoBulkEntries entries + 1
  | .held _ => 1
def uptoBulkAll {H : Type} : List (DataW H) → Nat
  | [] => 0
  | d :: r => uptoBulk d + uptoBulkAll r
def uptoBulkEntries {H : Type} : List (Lit × DataW H) → Nat
  | [] => 0
  | x :: r => uptoBulkEntry x + uptoBulkEntries r
def uptoBulkEntry {H : Type} : Lit × DataW H → Nat
  | (.string bytes, d) => bytes.length + uptoBulk d + 1
  | (_, d) => uptoBulk d + 1
 end
def uptoSmall : (H : Type) → List (DataW H) → Bool := fun _ ds => decide (uptoBulkAll ds ≤ 1048576)
def OpenSpec.upto (s : _root_.Go.ChangeSpec) : _root_.Go.OpenSpec := { _root_.Go.OpenSpec.ofChange s with cond := some uptoSmall }

/-- 'laws.FnRanges', WHERE WHAT IT READS IS OF BULK AT MOST 1048576: true; the input reads as it did. -/
def fnRangesUptoRow : OpenClaim := { program := "ytadblfnggmaadaadoor", sum := "15ce456717dee82740f359be34bc8ca8185a4829f6f43da7de29cdbc5d64bb2b", func := "pub-convoy/laws.FnRanges", spec := "fnRanges", inPlace := ["slices.overlaps[pub-convoy/pub/dtls.fragmentRange]"], unfollowed := true, recurses := true, named := ["pub-convoy/pub/dtls.errFragmentBufferOverflow"], apart := false, laid := [("pub-convoy/pub/dtls.errFragmentBufferOverflow", laid_pub_convoy_pub_dtls_errFragmentBufferOverflow)], narrowed := true }
def FnRangesUptoSaid : Prop := fnRangesUptoRow.holds Tryd.pinned (OpenSpec.upto fnRangesSpec)

/-- 'laws.FnFragmentsOther', WHERE WHAT IT READS IS OF BULK AT MOST 1048576: true; the input reads as it did. -/
def fnFragmentsOtherUptoRow : OpenClaim := { program := "ytadblfnggmaadaadoor", sum := "15ce456717dee82740f359be34bc8ca8185a4829f6f43da7de29cdbc5d64bb2b", func := "pub-convoy/laws.FnFragmentsOther", spec := "fnFragmentsOther", inPlace := ["slices.overlaps[pub-convoy/pub/dtls.fragmentRange]"], unfollowed := true, recurses := true, named := ["pub-convoy/pub/dtls.errFragmentBufferOverflow", "pub-convoy/pub/dtls.errBufferTooSmall", "pub-convoy/pub/dtls/pkg/protocol/recordlayer.errBufferTooSmall", "encoding/binary.BigEndian", "pub-convoy/pub/dtls/pkg/protocol.Version1_0", "pub-convoy/pub/dtls/pkg/protocol.Version1_2", "pub-convoy/pub/dtls/pkg/protocol/recordlayer.errUnsupportedProtocolVersion", "pub-convoy/pub/dtls/pkg/protocol/handshake.errBufferTooSmall"], apart := false, laid := [("pub-convoy/pub/dtls/pkg/protocol.Version1_0", laid_pub_convoy_pub_dtls_pkg_protocol_Version1_0), ("pub-convoy/pub/dtls/pkg/protocol.Version1_2", laid_pub_convoy_pub_dtls_pkg_protocol_Version1_2), ("pub-convoy/pub/dtls/pkg/protocol/handshake.errBufferTooSmall", laid_pub_convoy_pub_dtls_pkg_protocol_handshake_errBufferTooSmall), ("pub-convoy/pub/dtls/pkg/protocol/recordlayer.errBufferTooSmall", laid_pub_convoy_pub_dtls_pkg_protocol_recordlayer_errBufferTooSmall), ("pub-convoy/pub/dtls/pkg/protocol/recordlayer.errUnsupportedProtocolVersion", laid_pub_convoy_pub_dtls_pkg_protocol_recordlayer_errUnsupportedProtocolVersion), ("pub-convoy/pub/dtls.errBufferTooSmall", laid_pub_convoy_pub_dtls_errBufferTooSmall), ("pub-convoy/pub/dtls.errFragmentBufferOverflow", laid_pub_convoy_pub_dtls_errFragmentBufferOverflow)], narrowed := true }
def FnFragmentsOtherUptoSaid : Prop := fnFragmentsOtherUptoRow.holds Tryd.pinned (OpenSpec.upto fnFragmentsOtherSpec)

/-- 'laws.FnFragmentsWhole', WHERE WHAT IT READS IS OF BULK AT MOST 1048576: true; the input reads as it did. -/
def fnFragmentsWholeUptoRow : OpenClaim := { program := "ytadblfnggmaadaadoor", sum := "15ce456717dee82740f359be34bc8ca8185a4829f6f43da7de29cdbc5d64bb2b", func := "pub-convoy/laws.FnFragmentsWhole", spec := "fnFragmentsWhole", inPlace := ["slices.overlaps[pub-convoy/pub/dtls.fragmentRange]"], unfollowed := true, recurses := true, named := ["pub-convoy/pub/dtls.errFragmentBufferOverflow", "pub-convoy/pub/dtls.errBufferTooSmall", "pub-convoy/pub/dtls/pkg/protocol/recordlayer.errBufferTooSmall", "encoding/binary.BigEndian", "pub-convoy/pub/dtls/pkg/protocol.Version1_0", "pub-convoy/pub/dtls/pkg/protocol.Version1_2", "pub-convoy/pub/dtls/pkg/protocol/recordlayer.errUnsupportedProtocolVersion", "pub-convoy/pub/dtls/pkg/protocol/handshake.errBufferTooSmall"], apart := false, laid := [("pub-convoy/pub/dtls/pkg/protocol.Version1_0", laid_pub_convoy_pub_dtls_pkg_protocol_Version1_0), ("pub-convoy/pub/dtls/pkg/protocol.Version1_2", laid_pub_convoy_pub_dtls_pkg_protocol_Version1_2), ("pub-convoy/pub/dtls/pkg/protocol/handshake.errBufferTooSmall", laid_pub_convoy_pub_dtls_pkg_protocol_handshake_errBufferTooSmall), ("pub-convoy/pub/dtls/pkg/protocol/recordlayer.errBufferTooSmall", laid_pub_convoy_pub_dtls_pkg_protocol_recordlayer_errBufferTooSmall), ("pub-convoy/pub/dtls/pkg/protocol/recordlayer.errUnsupportedProtocolVersion", laid_pub_convoy_pub_dtls_pkg_protocol_recordlayer_errUnsupportedProtocolVersion), ("pub-convoy/pub/dtls.errBufferTooSmall", laid_pub_convoy_pub_dtls_errBufferTooSmall), ("pub-convoy/pub/dtls.errFragmentBufferOverflow", laid_pub_convoy_pub_dtls_errFragmentBufferOverflow)], narrowed := true }
def FnFragmentsWholeUptoSaid : Prop := fnFragmentsWholeUptoRow.holds Tryd.pinned (OpenSpec.upto fnFragmentsWholeSpec)

end Rows
end Go.Proofs.YtadblfnggmaadaaDoor
