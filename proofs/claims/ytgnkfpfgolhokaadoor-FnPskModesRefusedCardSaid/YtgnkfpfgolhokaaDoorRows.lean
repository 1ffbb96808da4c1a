/-
  NARROWER THAN 'FOR EVERY INPUT', by the rows' own cells (each row's printed sentence says how): FnCookieRefused: laid · FnOIDFiltersWrite: laid · FnPreSharedKeySelectedWrite: laid · FnKeyShareServerWrite: laid · FnPskModesRefused: laid.
  DERIVED. THE GIVEN ROWS OF THIS SEAT. 5 by the template 'for every input the law returns true; each argument reads behind the call as it read before'; 0 by the template 'total and deterministic' (their statements: YtgnkfpfgolhokaaDoorTotals.lean).
  GIVEN WITH THE SEED: the statements are not yours to turn. If you find one false, say at which input.
  Laid BY PROGRAM, IN A SANDBOX (cutbox-rows.mjs): the forced cells as the released guide's own fill.sh prints them over the translation 94a5e857f4185692… (all of the seat's roots in one cut). By AI agents, Wed Nov 11 2026. No macro, syntax, notation, axiom, sorry.
-/
import Derived.Test.YtgnkfpfgolhokaaDoorChecked
import GoSem.Claim
import GoSem.ClaimJoined
import GoSem.ClaimMapViews
import Derived.JoinedTies
import Derived.KernelRfl
namespace Go.Proofs.YtgnkfpfgolhokaaDoor
/- THE CELL 'sum', in the pinned program and in every row, IS THE sha256 OF THE DUMP (.gsa) THAT YtgnkfpfgolhokaaDoorProg.lean LOADS. Nothing in Lean hashes anything: it is a label: what it is worth is what the hold of that sum in a sandbox is worth. -/
noncomputable def Tryd.pinned : Pinned := { name := "ytgnkfpfgolhokaadoor", sum := "94a5e857f4185692f4cfc3be561ed6d5cf8d43399532234f6790b0795562b9d7", checked := Tryd.checked }
namespace Rows
def none {H : Type} : Left H := { results := [], args := [] }

/- WHAT THE LISTED PACKAGE-LEVEL VARIABLES READ AS WHEN THE CALL BEGINS. Each datum BY PROGRAM (the guide's laid-datum.mjs) off the statement by which the dump's own 'gosem.cut.vars' lays the variable. In a bare row this is a premise. The card (YtgnkfpfgolhokaaDoorCards.lean) ties it to the program's text. -/
def laid_pub_convoy_pub_dtls_pkg_protocol_extension_errCookieExtFormat {H : Type} : DataW H := .iface "*errors.errorString" (.ptr (.agg [.lit (.string [105, 110, 118, 97, 108, 105, 100, 32, 99, 111, 111, 107, 105, 101, 32, 102, 111, 114, 109, 97, 116])]))
def laid_pub_convoy_pub_dtls_pkg_protocol_extension_errEmptyOIDFilter {H : Type} : DataW H := .iface "*errors.errorString" (.ptr (.agg [.lit (.string [110, 111, 32, 111, 105, 100, 32, 115, 101, 116, 32, 102, 111, 114, 32, 97, 32, 79, 73, 68, 32, 102, 105, 108, 116, 101, 114])]))
def laid_pub_convoy_pub_dtls_pkg_protocol_extension_errDuplicateOID {H : Type} : DataW H := .iface "*errors.errorString" (.ptr (.agg [.lit (.string [100, 117, 112, 108, 105, 99, 97, 116, 101, 32, 79, 73, 68, 32, 102, 105, 108, 116, 101, 114, 115])]))
def laid_pub_convoy_pub_dtls_pkg_protocol_extension_errPreSharedKeyFormat {H : Type} : DataW H := .iface "*errors.errorString" (.ptr (.agg [.lit (.string [105, 110, 118, 97, 108, 105, 100, 32, 80, 114, 101, 45, 83, 104, 97, 114, 101, 100, 32, 75, 101, 121, 32, 101, 120, 116, 101, 110, 115, 105, 111, 110, 32, 102, 111, 114, 109, 97, 116])]))
def laid_pub_convoy_pub_dtls_pkg_protocol_extension_errInvalidKeyShareFormat {H : Type} : DataW H := .iface "*errors.errorString" (.ptr (.agg [.lit (.string [105, 110, 118, 97, 108, 105, 100, 32, 107, 101, 121, 95, 115, 104, 97, 114, 101, 32, 102, 111, 114, 109, 97, 116])]))
def laid_pub_convoy_pub_dtls_pkg_protocol_extension_errDuplicateKeyShare {H : Type} : DataW H := .iface "*errors.errorString" (.ptr (.agg [.lit (.string [100, 117, 112, 108, 105, 99, 97, 116, 101, 32, 107, 101, 121, 95, 115, 104, 97, 114, 101, 32, 103, 114, 111, 117, 112])]))
def laid_pub_convoy_pub_dtls_pkg_protocol_extension_errBufferTooSmall {H : Type} : DataW H := .iface "*errors.errorString" (.ptr (.agg [.lit (.string [98, 117, 102, 102, 101, 114, 32, 105, 115, 32, 116, 111, 111, 32, 115, 109, 97, 108, 108])]))
def laid_pub_convoy_pub_dtls_pkg_protocol_extension_errInvalidExtensionType {H : Type} : DataW H := .iface "*errors.errorString" (.ptr (.agg [.lit (.string [105, 110, 118, 97, 108, 105, 100, 32, 101, 120, 116, 101, 110, 115, 105, 111, 110, 32, 116, 121, 112, 101])]))
def laid_pub_convoy_pub_dtls_pkg_protocol_extension_errLengthMismatch {H : Type} : DataW H := .iface "*errors.errorString" (.ptr (.agg [.lit (.string [100, 97, 116, 97, 32, 108, 101, 110, 103, 116, 104, 32, 97, 110, 100, 32, 100, 101, 99, 108, 97, 114, 101, 100, 32, 108, 101, 110, 103, 116, 104, 32, 100, 111, 32, 110, 111, 116, 32, 109, 97, 116, 99, 104])]))
def laid_pub_convoy_pub_dtls_pkg_protocol_extension_errPskKeyExchangeModesFormat {H : Type} : DataW H := .iface "*errors.errorString" (.ptr (.agg [.lit (.string [105, 110, 118, 97, 108, 105, 100, 32, 80, 114, 101, 45, 83, 104, 97, 114, 101, 100, 32, 75, 101, 121, 32, 69, 120, 99, 104, 97, 110, 103, 101, 32, 77, 111, 100, 101, 115, 32, 101, 120, 116, 101, 110, 115, 105, 111, 110, 32, 102, 111, 114, 109, 97, 116])]))
def laid_pub_convoy_pub_dtls_pkg_protocol_extension_errNoPskKeyExchangeMode {H : Type} : DataW H := .iface "*errors.errorString" (.ptr (.agg [.lit (.string [110, 111, 32, 109, 111, 100, 101, 32, 115, 101, 116, 32, 102, 111, 114, 32, 116, 104, 101, 32, 80, 114, 101, 45, 83, 104, 97, 114, 101, 100, 32, 75, 101, 121, 32, 69, 120, 99, 104, 97, 110, 103, 101, 32, 77, 111, 100, 101, 115, 32, 101, 120, 116, 101, 110, 115, 105, 111, 110])]))

/-- 'laws.FnCookieRefused': WHATEVER THE INPUT: true; the input reads as it did. -/
def fnCookieRefusedSpec : ChangeSpec := { name := "fnCookieRefused", fn := fun _ => fun
  | [d] => { results := [.lit (.bool true)], args := [d] }
  | _ => none }
def fnCookieRefusedRow : OpenClaim := { program := "ytgnkfpfgolhokaadoor", sum := "94a5e857f4185692f4cfc3be561ed6d5cf8d43399532234f6790b0795562b9d7", func := "pub-convoy/laws.FnCookieRefused", spec := "fnCookieRefused", unfollowed := true, recurses := true, named := ["pub-convoy/pub/dtls/pkg/protocol/extension.errCookieExtFormat"], apart := false, laid := [("pub-convoy/pub/dtls/pkg/protocol/extension.errCookieExtFormat", laid_pub_convoy_pub_dtls_pkg_protocol_extension_errCookieExtFormat)] }
def FnCookieRefusedSaid : Prop := fnCookieRefusedRow.holds Tryd.pinned (OpenSpec.ofChange fnCookieRefusedSpec)

/-- ITS FALSE NEIGHBOUR: 'it returns false'. Refute it at one input. -/
def fnCookieRefusedWrong : ChangeSpec := { name := "fnCookieRefused", fn := fun _ => fun
  | [d] => { results := [.lit (.bool false)], args := [d] }
  | _ => none }
def FnCookieRefusedWrongFalsely : Prop := fnCookieRefusedRow.holds Tryd.pinned (OpenSpec.ofChange fnCookieRefusedWrong)

/-- 'laws.FnOIDFiltersWrite': WHATEVER THE INPUT: true; the input reads as it did. -/
def fnOIDFiltersWriteSpec : ChangeSpec := { name := "fnOIDFiltersWrite", fn := fun _ => fun
  | [d] => { results := [.lit (.bool true)], args := [d] }
  | _ => none }
def fnOIDFiltersWriteRow : OpenClaim := { program := "ytgnkfpfgolhokaadoor", sum := "94a5e857f4185692f4cfc3be561ed6d5cf8d43399532234f6790b0795562b9d7", func := "pub-convoy/laws.FnOIDFiltersWrite", spec := "fnOIDFiltersWrite", unfollowed := true, recurses := true, named := ["pub-convoy/pub/dtls/pkg/protocol/extension.errEmptyOIDFilter", "pub-convoy/pub/dtls/pkg/protocol/extension.errDuplicateOID"], apart := false, laid := [("pub-convoy/pub/dtls/pkg/protocol/extension.errEmptyOIDFilter", laid_pub_convoy_pub_dtls_pkg_protocol_extension_errEmptyOIDFilter), ("pub-convoy/pub/dtls/pkg/protocol/extension.errDuplicateOID", laid_pub_convoy_pub_dtls_pkg_protocol_extension_errDuplicateOID)] }
def FnOIDFiltersWriteSaid : Prop := fnOIDFiltersWriteRow.holds Tryd.pinned (OpenSpec.ofChange fnOIDFiltersWriteSpec)

/-- ITS FALSE NEIGHBOUR: 'it returns false'. Refute it at one input. -/
def fnOIDFiltersWriteWrong : ChangeSpec := { name := "fnOIDFiltersWrite", fn := fun _ => fun
  | [d] => { results := [.lit (.bool false)], args := [d] }
  | _ => none }
def FnOIDFiltersWriteWrongFalsely : Prop := fnOIDFiltersWriteRow.holds Tryd.pinned (OpenSpec.ofChange fnOIDFiltersWriteWrong)

/-- 'laws.FnPreSharedKeySelectedWrite': WHATEVER THE INPUT: true; the input reads as it did. -/
def fnPreSharedKeySelectedWriteSpec : ChangeSpec := { name := "fnPreSharedKeySelectedWrite", fn := fun _ => fun
  | [d] => { results := [.lit (.bool true)], args := [d] }
  | _ => none }
def fnPreSharedKeySelectedWriteRow : OpenClaim := { program := "ytgnkfpfgolhokaadoor", sum := "94a5e857f4185692f4cfc3be561ed6d5cf8d43399532234f6790b0795562b9d7", func := "pub-convoy/laws.FnPreSharedKeySelectedWrite", spec := "fnPreSharedKeySelectedWrite", unfollowed := true, recurses := true, named := ["pub-convoy/pub/dtls/pkg/protocol/extension.errPreSharedKeyFormat"], apart := false, laid := [("pub-convoy/pub/dtls/pkg/protocol/extension.errPreSharedKeyFormat", laid_pub_convoy_pub_dtls_pkg_protocol_extension_errPreSharedKeyFormat)] }
def FnPreSharedKeySelectedWriteSaid : Prop := fnPreSharedKeySelectedWriteRow.holds Tryd.pinned (OpenSpec.ofChange fnPreSharedKeySelectedWriteSpec)

/-- ITS FALSE NEIGHBOUR: 'it returns false'. Refute it at one input. -/
def fnPreSharedKeySelectedWriteWrong : ChangeSpec := { name := "fnPreSharedKeySelectedWrite", fn := fun _ => fun
  | [d] => { results := [.lit (.bool false)], args := [d] }
  | _ => none }
def FnPreSharedKeySelectedWriteWrongFalsely : Prop := fnPreSharedKeySelectedWriteRow.holds Tryd.pinned (OpenSpec.ofChange fnPreSharedKeySelectedWriteWrong)

/-- 'laws.FnKeyShareServerWrite': WHATEVER THE INPUT: true; the input reads as it did. -/
def fnKeyShareServerWriteSpec : ChangeSpec := { name := "fnKeyShareServerWrite", fn := fun _ => fun
  | [d] => { results := [.lit (.bool true)], args := [d] }
  | _ => none }
def fnKeyShareServerWriteRow : OpenClaim := { program := "ytgnkfpfgolhokaadoor", sum := "94a5e857f4185692f4cfc3be561ed6d5cf8d43399532234f6790b0795562b9d7", func := "pub-convoy/laws.FnKeyShareServerWrite", spec := "fnKeyShareServerWrite", unfollowed := true, recurses := true, named := ["pub-convoy/pub/dtls/pkg/protocol/extension.errInvalidKeyShareFormat", "pub-convoy/pub/dtls/pkg/protocol/extension.errDuplicateKeyShare"], apart := false, laid := [("pub-convoy/pub/dtls/pkg/protocol/extension.errInvalidKeyShareFormat", laid_pub_convoy_pub_dtls_pkg_protocol_extension_errInvalidKeyShareFormat), ("pub-convoy/pub/dtls/pkg/protocol/extension.errDuplicateKeyShare", laid_pub_convoy_pub_dtls_pkg_protocol_extension_errDuplicateKeyShare)] }
def FnKeyShareServerWriteSaid : Prop := fnKeyShareServerWriteRow.holds Tryd.pinned (OpenSpec.ofChange fnKeyShareServerWriteSpec)

/-- ITS FALSE NEIGHBOUR: 'it returns false'. Refute it at one input. -/
def fnKeyShareServerWriteWrong : ChangeSpec := { name := "fnKeyShareServerWrite", fn := fun _ => fun
  | [d] => { results := [.lit (.bool false)], args := [d] }
  | _ => none }
def FnKeyShareServerWriteWrongFalsely : Prop := fnKeyShareServerWriteRow.holds Tryd.pinned (OpenSpec.ofChange fnKeyShareServerWriteWrong)

/-- 'laws.FnPskModesRefused': WHATEVER THE INPUT: true; the input reads as it did. -/
def fnPskModesRefusedSpec : ChangeSpec := { name := "fnPskModesRefused", fn := fun _ => fun
  | [d] => { results := [.lit (.bool true)], args := [d] }
  | _ => none }
def fnPskModesRefusedRow : OpenClaim := { program := "ytgnkfpfgolhokaadoor", sum := "94a5e857f4185692f4cfc3be561ed6d5cf8d43399532234f6790b0795562b9d7", func := "pub-convoy/laws.FnPskModesRefused", spec := "fnPskModesRefused", unfollowed := true, recurses := true, named := ["pub-convoy/pub/dtls/pkg/protocol/extension.errNoPskKeyExchangeMode", "pub-convoy/pub/dtls/pkg/protocol/extension.errInvalidExtensionType", "pub-convoy/pub/dtls/pkg/protocol/extension.errBufferTooSmall", "pub-convoy/pub/dtls/pkg/protocol/extension.errPskKeyExchangeModesFormat", "pub-convoy/pub/dtls/pkg/protocol/extension.errLengthMismatch"], apart := false, laid := [("pub-convoy/pub/dtls/pkg/protocol/extension.errBufferTooSmall", laid_pub_convoy_pub_dtls_pkg_protocol_extension_errBufferTooSmall), ("pub-convoy/pub/dtls/pkg/protocol/extension.errInvalidExtensionType", laid_pub_convoy_pub_dtls_pkg_protocol_extension_errInvalidExtensionType), ("pub-convoy/pub/dtls/pkg/protocol/extension.errLengthMismatch", laid_pub_convoy_pub_dtls_pkg_protocol_extension_errLengthMismatch), ("pub-convoy/pub/dtls/pkg/protocol/extension.errPskKeyExchangeModesFormat", laid_pub_convoy_pub_dtls_pkg_protocol_extension_errPskKeyExchangeModesFormat), ("pub-convoy/pub/dtls/pkg/protocol/extension.errNoPskKeyExchangeMode", laid_pub_convoy_pub_dtls_pkg_protocol_extension_errNoPskKeyExchangeMode)] }
def FnPskModesRefusedSaid : Prop := fnPskModesRefusedRow.holds Tryd.pinned (OpenSpec.ofChange fnPskModesRefusedSpec)

/-- ITS FALSE NEIGHBOUR: 'it returns false'. Refute it at one input. -/
def fnPskModesRefusedWrong : ChangeSpec := { name := "fnPskModesRefused", fn := fun _ => fun
  | [d] => { results := [.lit (.bool false)], args := [d] }
  | _ => none }
def FnPskModesRefusedWrongFalsely : Prop := fnPskModesRefusedRow.holds Tryd.pinned (OpenSpec.ofChange fnPskModesRefusedWrong)

/- THE SECOND FORM. 'bulk': how many values and letters a reading holds, each counted each time it is reached (what is shared counts as often as it is met; a slice's spare places count too). A statement '..UptoSaid' is the law's where the arguments, and the package variables that the reading takes, are together of bulk at most 1048576: NARROWER than '..Said'. Prove '..Said' where nothing that the law and all that it calls make is longer than what came in: it says more and counts as full. Else prove '..UptoSaid'. A law counts once. -/
mutual
def uptoBulk {H : Type} : DataW H → Nat
  | .lit (.string bytes) => bytes.length + 1
  | .lit _ => 1
  | .nil => 1
  | .ptr d => uptoBulk d + 1
  | .slice elems spare => uptoBulkAll elems + uptoBulkAll spare + 1
  | .agg parts => uptoBulkAll parts + 1
  | .iface _ d => uptoBulk d + 1
  | .map entries => uptoBulkEntries entries + 1
  | .held _ => 1
def uptoBulkAll {H : Type} : List (DataW H) → Nat
  | [] => 0
  | d :: r => uptoBulk d + uptoBulkAll r
def uptoBulkEntries {H : Type} : List (Lit × DataW H) → Nat
  | [] => 0
  | x :: r => uptoBulkEntry x + uptoBulkEntries r
def uptoBulkEntry {H : Type} : Lit × DataW H → Nat
  | (.string bytes, d) => bytes.length + uptoBulk d + 1
  | (_, d) => uptoBulk d + 1
 end
def uptoSmall : (H : Type) → List (DataW H) → Bool := fun _ ds => decide (uptoBulkAll ds ≤ 1048576)
def OpenSpec.upto (s : _root_.Go.ChangeSpec) : _root_.Go.OpenSpec := { _root_.Go.OpenSpec.ofChange s with cond := some uptoSmall }

/-- 'laws.FnCookieRefused', WHERE WHAT IT READS IS OF BULK AT MOST 1048576: true; the input reads as it did. -/
def fnCookieRefusedUptoRow : OpenClaim := { program := "ytgnkfpfgolhokaadoor", sum := "94a5e857f4185692f4cfc3be561ed6d5cf8d43399532234f6790b0795562b9d7", func := "pub-convoy/laws.FnCookieRefused", spec := "fnCookieRefused", unfollowed := true, recurses := true, named := ["pub-convoy/pub/dtls/pkg/protocol/extension.errCookieExtFormat"], apart := false, laid := [("pub-convoy/pub/dtls/pkg/protocol/extension.errCookieExtFormat", laid_pub_convoy_pub_dtls_pkg_protocol_extension_errCookieExtFormat)], narrowed := true }
def FnCookieRefusedUptoSaid : Prop := fnCookieRefusedUptoRow.holds Tryd.pinned (OpenSpec.upto fnCookieRefusedSpec)

/-- 'laws.FnOIDFiltersWrite', WHERE WHAT IT READS IS OF BULK AT MOST 1048576: true; the input reads as it did. -/
def fnOIDFiltersWriteUptoRow : OpenClaim := { program := "ytgnkfpfgolhokaadoor", sum := "94a5e857f4185692f4cfc3be561ed6d5cf8d43399532234f6790b0795562b9d7", func := "pub-convoy/laws.FnOIDFiltersWrite", spec := "fnOIDFiltersWrite", unfollowed := true, recurses := true, named := ["pub-convoy/pub/dtls/pkg/protocol/extension.errEmptyOIDFilter", "pub-convoy/pub/dtls/pkg/protocol/extension.errDuplicateOID"], apart := false, laid := [("pub-convoy/pub/dtls/pkg/protocol/extension.errEmptyOIDFilter", laid_pub_convoy_pub_dtls_pkg_protocol_extension_errEmptyOIDFilter), ("pub-convoy/pub/dtls/pkg/protocol/extension.errDuplicateOID", laid_pub_convoy_pub_dtls_pkg_protocol_extension_errDuplicateOID)], narrowed := true }
def FnOIDFiltersWriteUptoSaid : Prop := fnOIDFiltersWriteUptoRow.holds Tryd.pinned (OpenSpec.upto fnOIDFiltersWriteSpec)

/-- 'laws.FnPreSharedKeySelectedWrite', WHERE WHAT IT READS IS OF BULK AT MOST 1048576: true; the input reads as it did. -/
def fnPreSharedKeySelectedWriteUptoRow : OpenClaim := { program := "ytgnkfpfgolhokaadoor", sum := "94a5e857f4185692f4cfc3be561ed6d5cf8d43399532234f6790b0795562b9d7", func := "pub-convoy/laws.FnPreSharedKeySelectedWrite", spec := "fnPreSharedKeySelectedWrite", unfollowed := true, recurses := true, named := ["pub-convoy/pub/dtls/pkg/protocol/extension.errPreSharedKeyFormat"], apart := false, laid := [("pub-convoy/pub/dtls/pkg/protocol/extension.errPreSharedKeyFormat", laid_pub_convoy_pub_dtls_pkg_protocol_extension_errPreSharedKeyFormat)], narrowed := true }
def FnPreSharedKeySelectedWriteUptoSaid : Prop := fnPreSharedKeySelectedWriteUptoRow.holds Tryd.pinned (OpenSpec.upto fnPreSharedKeySelectedWriteSpec)

/-- 'laws.FnKeyShareServerWrite', WHERE WHAT IT READS IS OF BULK AT MOST 1048576: true; the input reads as it did. -/
def fnKeyShareServerWriteUptoRow : OpenClaim := { program := "ytgnkfpfgolhokaadoor", sum := "94a5e857f4185692f4cfc3be561ed6d5cf8d43399532234f6790b0795562b9d7", func := "pub-convoy/laws.FnKeyShareServerWrite", spec := "fnKeyShareServerWrite", unfollowed := true, recurses := true, named := ["pub-convoy/pub/dtls/pkg/protocol/extension.errInvalidKeyShareFormat", "pub-convoy/pub/dtls/pkg/protocol/extension.errDuplicateKeyShare"], apart := false, laid := [("pub-convoy/pub/dtls/pkg/protocol/extension.errInvalidKeyShareFormat", laid_pub_convoy_pub_dtls_pkg_protocol_extension_errInvalidKeyShareFormat), ("pub-convoy/pub/dtls/pkg/protocol/extension.errDuplicateKeyShare", laid_pub_convoy_pub_dtls_pkg_protocol_extension_errDuplicateKeyShare)], narrowed := true }
def FnKeyShareServerWriteUptoSaid : Prop := fnKeyShareServerWriteUptoRow.holds Tryd.pinned (OpenSpec.upto fnKeyShareServerWriteSpec)

/-- 'laws.FnPskModesRefused', WHERE WHAT IT READS IS OF BULK AT MOST 1048576: true; the input reads as it did. -/
def fnPskModesRefusedUptoRow : OpenClaim := { program := "ytgnkfpfgolhokaadoor", sum := "94a5e857f4185692f4cfc3be561ed6d5cf8d43399532234f6790b0795562b9d7", func := "pub-convoy/laws.FnPskModesRefused", spec := "fnPskModesRefused", unfollowed := true, recurses := true, named := ["pub-convoy/pub/dtls/pkg/protocol/extension.errNoPskKeyExchangeMode", "pub-convoy/pub/dtls/pkg/protocol/extension.errInvalidExtensionType", "pub-convoy/pub/dtls/pkg/protocol/extension.errBufferTooSmall", "pub-convoy/pub/dtls/pkg/protocol/extension.errPskKeyExchangeModesFormat", "pub-convoy/pub/dtls/pkg/protocol/extension.errLengthMismatch"], apart := false, laid := [("pub-convoy/pub/dtls/pkg/protocol/extension.errBufferTooSmall", laid_pub_convoy_pub_dtls_pkg_protocol_extension_errBufferTooSmall), ("pub-convoy/pub/dtls/pkg/protocol/extension.errInvalidExtensionType", laid_pub_convoy_pub_dtls_pkg_protocol_extension_errInvalidExtensionType), ("pub-convoy/pub/dtls/pkg/protocol/extension.errLengthMismatch", laid_pub_convoy_pub_dtls_pkg_protocol_extension_errLengthMismatch), ("pub-convoy/pub/dtls/pkg/protocol/extension.errPskKeyExchangeModesFormat", laid_pub_convoy_pub_dtls_pkg_protocol_extension_errPskKeyExchangeModesFormat), ("pub-convoy/pub/dtls/pkg/protocol/extension.errNoPskKeyExchangeMode", laid_pub_convoy_pub_dtls_pkg_protocol_extension_errNoPskKeyExchangeMode)], narrowed := true }
def FnPskModesRefusedUptoSaid : Prop := fnPskModesRefusedUptoRow.holds Tryd.pinned (OpenSpec.upto fnPskModesRefusedSpec)

end Rows
end Go.Proofs.YtgnkfpfgolhokaaDoor
