/-
  NARROWER THAN 'FOR EVERY INPUT', by the rows' own cells (each row's printed sentence says how): FnDatagramBack: laid · FnDatagramTwo: laid.
  DERIVED. THE GIVEN ROWS OF THIS SEAT. 2 by the template 'for every input the law returns true; each argument reads behind the call as it read before'; 0 by the template 'total and deterministic' (their statements: YtkcacppcendhmaaDoorTotals.lean).
  GIVEN WITH THE SEED: the statements are not yours to turn. If you find one false, say at which input.
  Laid BY PROGRAM, IN A SANDBOX (cutbox-rows.mjs): the forced cells as the released guide's own fill.sh prints them over the translation a1f21062d3c01728… (all of the seat's roots in one cut). By AI agents, Wed Nov 11 2026. No macro, syntax, notation, axiom, sorry.
-/
import Derived.Test.YtkcacppcendhmaaDoorChecked
import GoSem.Claim
import GoSem.ClaimJoined
import GoSem.ClaimMapViews
import Derived.JoinedTies
import Derived.KernelRfl
namespace Go.Proofs.YtkcacppcendhmaaDoor
/- THE CELL 'sum', in the pinned program and in every row, IS THE sha256 OF THE DUMP (.gsa) THAT YtkcacppcendhmaaDoorProg.lean LOADS. Nothing in Lean hashes anything: it is a label: what it is worth is what the hold of that sum in a sandbox is worth. -/
noncomputable def Tryd.pinned : Pinned := { name := "ytkcacppcendhmaadoor", sum := "a1f21062d3c017282ff1349f1b5504d399d116be3276b9a3316a09a61c6a8b57", checked := Tryd.checked }
namespace Rows
def none {H : Type} : Left H := { results := [], args := [] }

/- WHAT THE LISTED PACKAGE-LEVEL VARIABLES READ AS WHEN THE CALL BEGINS. Each datum BY PROGRAM (the guide's laid-datum.mjs) off the statement by which the dump's own 'gosem.cut.vars' lays the variable. In a bare row this is a premise. The card (YtkcacppcendhmaaDoorCards.lean) ties it to the program's text. -/
def laid_pub_convoy_pub_dtls_pkg_protocol_recordlayer_ErrInvalidPacketLength {H : Type} : DataW H := .iface "*errors.errorString" (.ptr (.agg [.lit (.string [112, 97, 99, 107, 101, 116, 32, 108, 101, 110, 103, 116, 104, 32, 97, 110, 100, 32, 100, 101, 99, 108, 97, 114, 101, 100, 32, 108, 101, 110, 103, 116, 104, 32, 100, 111, 32, 110, 111, 116, 32, 109, 97, 116, 99, 104])]))

/-- 'laws.FnDatagramBack': WHATEVER THE INPUT: true; the input reads as it did. -/
def fnDatagramBackSpec : ChangeSpec := { name := "fnDatagramBack", fn := fun _ => fun
  | [d1, d2, d3] => { results := [.lit (.bool true)], args := [d1, d2, d3] }
  | _ => none }
def fnDatagramBackRow : OpenClaim := { program := "ytkcacppcendhmaadoor", sum := "a1f21062d3c017282ff1349f1b5504d399d116be3276b9a3316a09a61c6a8b57", func := "pub-convoy/laws.FnDatagramBack", spec := "fnDatagramBack", named := ["pub-convoy/pub/dtls/pkg/protocol/recordlayer.ErrInvalidPacketLength", "encoding/binary.BigEndian"], apart := false, laid := [("pub-convoy/pub/dtls/pkg/protocol/recordlayer.ErrInvalidPacketLength", laid_pub_convoy_pub_dtls_pkg_protocol_recordlayer_ErrInvalidPacketLength)] }
def FnDatagramBackSaid : Prop := fnDatagramBackRow.holds Tryd.pinned (OpenSpec.ofChange fnDatagramBackSpec)

/-- ITS FALSE NEIGHBOUR: 'it returns false'. Refute it at one input. -/
def fnDatagramBackWrong : ChangeSpec := { name := "fnDatagramBack", fn := fun _ => fun
  | [d1, d2, d3] => { results := [.lit (.bool false)], args := [d1, d2, d3] }
  | _ => none }
def FnDatagramBackWrongFalsely : Prop := fnDatagramBackRow.holds Tryd.pinned (OpenSpec.ofChange fnDatagramBackWrong)

/-- 'laws.FnDatagramTwo': WHATEVER THE INPUT: true; the input reads as it did. -/
def fnDatagramTwoSpec : ChangeSpec := { name := "fnDatagramTwo", fn := fun _ => fun
  | [d] => { results := [.lit (.bool true)], args := [d] }
  | _ => none }
def fnDatagramTwoRow : OpenClaim := { program := "ytkcacppcendhmaadoor", sum := "a1f21062d3c017282ff1349f1b5504d399d116be3276b9a3316a09a61c6a8b57", func := "pub-convoy/laws.FnDatagramTwo", spec := "fnDatagramTwo", named := ["pub-convoy/pub/dtls/pkg/protocol/recordlayer.ErrInvalidPacketLength", "encoding/binary.BigEndian"], apart := false, laid := [("pub-convoy/pub/dtls/pkg/protocol/recordlayer.ErrInvalidPacketLength", laid_pub_convoy_pub_dtls_pkg_protocol_recordlayer_ErrInvalidPacketLength)] }
def FnDatagramTwoSaid : Prop := fnDatagramTwoRow.holds Tryd.pinned (OpenSpec.ofChange fnDatagramTwoSpec)

/-- ITS FALSE NEIGHBOUR: 'it returns false'. Refute it at one input. -/
def fnDatagramTwoWrong : ChangeSpec := { name := "fnDatagramTwo", fn := fun _ => fun
  | [d] => { results := [.lit (.bool false)], args := [d] }
  | _ => none }
def FnDatagramTwoWrongFalsely : Prop := fnDatagramTwoRow.holds Tryd.pinned (OpenSpec.ofChange fnDatagramTwoWrong)

/- THE SECOND FORM. 'bulk': how many values and letters a reading holds, each counted each time it is reached (what is shared counts as often as it is met; a slice's spare places count too). A statement '..UptoSaid' is the law's where the arguments, and the package variables that the reading takes, are together of bulk at most 1048576: NARROWER than '..Said'. Prove '..Said' where nothing that the law and all that it calls make is longer than what came in: it says more and counts as full. Else prove '..UptoSaid'. A law counts once. -/
mutual
def uptoBulk {H : Type} : DataW H → Nat
  | .lit (.string bytes) => bytes.length + 1
  | .lit _ => 1
  | .nil => 1
  | .ptr d => uptoBulk d + 1
  | .slice elems spare => uptoBulkAll elems + uptoBulkAll spare + 1
  | .agg parts => uptoBulkAll parts + 1
  | .iface _ d => uptoBulk d + 1
  | .map entries => uptoBulkEntries entries + 1
  | .held _ => 1
def uptoBulkAll {H : Type} : List (DataW H) → Nat
  | [] => 0
  | d :: r => uptoBulk d + uptoBulkAll r
def uptoBulkEntries {H : Type} : List (Lit × DataW H) → Nat
  | [] => 0
  | x :: r => uptoBulkEntry x + uptoBulkEntries r
def uptoBulkEntry {H : Type} : Lit × DataW H → Nat
  | (.string bytes, d) => bytes.length + uptoBulk d + 1
  | (_, d) => uptoBulk d + 1
 end
def uptoSmall : (H : Type) → List (DataW H) → Bool := fun _ ds => decide (uptoBulkAll ds ≤ 1048576)
def OpenSpec.upto (s : _root_.Go.ChangeSpec) : _root_.Go.OpenSpec := { _root_.Go.OpenSpec.ofChange s with cond := some uptoSmall }

/-- 'laws.FnDatagramBack', WHERE WHAT IT READS IS OF BULK AT MOST 1048576: true; the input reads as it did. -/
def fnDatagramBackUptoRow : OpenClaim := { program := "ytkcacppcendhmaadoor", sum := "a1f21062d3c017282ff1349f1b5504d399d116be3276b9a3316a09a61c6a8b57", func := "pub-convoy/laws.FnDatagramBack", spec := "fnDatagramBack", named := ["pub-convoy/pub/dtls/pkg/protocol/recordlayer.ErrInvalidPacketLength", "encoding/binary.BigEndian"], apart := false, laid := [("pub-convoy/pub/dtls/pkg/protocol/recordlayer.ErrInvalidPacketLength", laid_pub_convoy_pub_dtls_pkg_protocol_recordlayer_ErrInvalidPacketLength)], narrowed := true }
def FnDatagramBackUptoSaid : Prop := fnDatagramBackUptoRow.holds Tryd.pinned (OpenSpec.upto fnDatagramBackSpec)

/-- 'laws.FnDatagramTwo', WHERE WHAT IT READS IS OF BULK AT MOST 1048576: true; the input reads as it did. -/
def fnDatagramTwoUptoRow : OpenClaim := { program := "ytkcacppcendhmaadoor", sum := "a1f21062d3c017282ff1349f1b5504d399d116be3276b9a3316a09a61c6a8b57", func := "pub-convoy/laws.FnDatagramTwo", spec := "fnDatagramTwo", named := ["pub-convoy/pub/dtls/pkg/protocol/recordlayer.ErrInvalidPacketLength", "encoding/binary.BigEndian"], apart := false, laid := [("pub-convoy/pub/dtls/pkg/protocol/recordlayer.ErrInvalidPacketLength", laid_pub_convoy_pub_dtls_pkg_protocol_recordlayer_ErrInvalidPacketLength)], narrowed := true }
def FnDatagramTwoUptoSaid : Prop := fnDatagramTwoUptoRow.holds Tryd.pinned (OpenSpec.upto fnDatagramTwoSpec)

end Rows
end Go.Proofs.YtkcacppcendhmaaDoor
