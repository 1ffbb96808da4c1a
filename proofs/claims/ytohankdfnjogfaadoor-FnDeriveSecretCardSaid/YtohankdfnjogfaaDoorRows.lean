/-
  NARROWER THAN 'FOR EVERY INPUT', by the rows' own cells (each row's printed sentence says how): FnDeriveSecret: laid.
  DERIVED. THE GIVEN ROWS OF THIS SEAT. 1 by the template 'for every input the law returns true; each argument reads behind the call as it read before'; 0 by the template 'total and deterministic' (their statements: YtohankdfnjogfaaDoorTotals.lean).
  GIVEN WITH THE SEED: the statements are not yours to turn. If you find one false, say at which input.
  Laid BY PROGRAM, IN A SANDBOX (cutbox-rows.mjs): the forced cells as the released guide's own fill.sh prints them over the translation 1e22faecc88b83c8… (all of the seat's roots in one cut). By AI agents, Wed Nov 11 2026. No macro, syntax, notation, axiom, sorry.
-/
import Derived.Test.YtohankdfnjogfaaDoorChecked
import GoSem.Claim
import GoSem.ClaimJoined
import GoSem.ClaimMapViews
import Derived.JoinedTies
import Derived.KernelRfl
namespace Go.Proofs.YtohankdfnjogfaaDoor
/- THE CELL 'sum', in the pinned program and in every row, IS THE sha256 OF THE DUMP (.gsa) THAT YtohankdfnjogfaaDoorProg.lean LOADS. Nothing in Lean hashes anything: it is a label: what it is worth is what the hold of that sum in a sandbox is worth. -/
noncomputable def Tryd.pinned : Pinned := { name := "ytohankdfnjogfaadoor", sum := "1e22faecc88b83c8c63a5d3ad9fc492b307dcde70ce76646b71ded7163dfae44", checked := Tryd.checked }
namespace Rows
def none {H : Type} : Left H := { results := [], args := [] }

/- WHAT THE LISTED PACKAGE-LEVEL VARIABLES READ AS WHEN THE CALL BEGINS. Each datum BY PROGRAM (the guide's laid-datum.mjs) off the statement by which the dump's own 'gosem.cut.vars' lays the variable. In a bare row this is a premise. The card (YtohankdfnjogfaaDoorCards.lean) ties it to the program's text. -/
def laid_pub_convoy_pub_dtls_pkg_crypto_keyschedule_errMissingHashFunction {H : Type} : DataW H := .iface "*errors.errorString" (.ptr (.agg [.lit (.string [72, 75, 68, 70, 45, 69, 120, 116, 114, 97, 99, 116, 32, 101, 120, 112, 101, 99, 116, 101, 100, 32, 97, 32, 110, 111, 110, 45, 110, 105, 108, 32, 104, 97, 115, 104, 32, 102, 117, 110, 99, 116, 105, 111, 110])]))
def laid_pub_convoy_pub_dtls_pkg_crypto_keyschedule_errLabelTooSmall {H : Type} : DataW H := .iface "*errors.errorString" (.ptr (.agg [.lit (.string [72, 75, 68, 70, 45, 69, 120, 112, 97, 110, 100, 45, 76, 97, 98, 101, 108, 32, 101, 120, 112, 101, 99, 116, 101, 100, 32, 97, 32, 108, 97, 98, 101, 108, 32, 119, 105, 116, 104, 32, 108, 101, 110, 103, 116, 104, 32, 62, 61, 32, 55])]))
def laid_pub_convoy_pub_dtls_pkg_crypto_keyschedule_errLabelTooBig {H : Type} : DataW H := .iface "*errors.errorString" (.ptr (.agg [.lit (.string [72, 75, 68, 70, 45, 69, 120, 112, 97, 110, 100, 45, 76, 97, 98, 101, 108, 32, 101, 120, 112, 101, 99, 116, 101, 100, 32, 97, 32, 108, 97, 98, 101, 108, 32, 119, 105, 116, 104, 32, 108, 101, 110, 103, 116, 104, 32, 60, 61, 32, 50, 53, 53])]))
def laid_pub_convoy_pub_dtls_pkg_crypto_keyschedule_errContextTooBig {H : Type} : DataW H := .iface "*errors.errorString" (.ptr (.agg [.lit (.string [72, 75, 68, 70, 45, 69, 120, 112, 97, 110, 100, 45, 76, 97, 98, 101, 108, 32, 101, 120, 112, 101, 99, 116, 101, 100, 32, 97, 32, 99, 111, 110, 116, 101, 120, 116, 32, 119, 105, 116, 104, 32, 108, 101, 110, 103, 116, 104, 32, 60, 61, 32, 50, 53, 53])]))
def laid_pub_convoy_pub_dtls_pkg_crypto_keyschedule_errLengthTooBig {H : Type} : DataW H := .iface "*errors.errorString" (.ptr (.agg [.lit (.string [72, 75, 68, 70, 45, 69, 120, 112, 97, 110, 100, 45, 76, 97, 98, 101, 108, 32, 101, 120, 112, 101, 99, 116, 101, 100, 32, 97, 32, 108, 101, 110, 103, 116, 104, 32, 60, 61, 32, 54, 53, 53, 51, 53])]))

/-- 'laws.FnDeriveSecret': WHATEVER THE INPUT: true; the input reads as it did. -/
def fnDeriveSecretSpec : ChangeSpec := { name := "fnDeriveSecret", fn := fun _ => fun
  | [d1, d2, d3, d4] => { results := [.lit (.bool true)], args := [d1, d2, d3, d4] }
  | _ => none }
def fnDeriveSecretRow : OpenClaim := { program := "ytohankdfnjogfaadoor", sum := "1e22faecc88b83c8c63a5d3ad9fc492b307dcde70ce76646b71ded7163dfae44", func := "pub-convoy/laws.FnDeriveSecret", spec := "fnDeriveSecret", unfollowed := true, recurses := true, named := ["pub-convoy/pub/dtls/pkg/crypto/keyschedule.errMissingHashFunction", "pub-convoy/pub/dtls/pkg/crypto/keyschedule.errLabelTooSmall", "pub-convoy/pub/dtls/pkg/crypto/keyschedule.errLabelTooBig", "pub-convoy/pub/dtls/pkg/crypto/keyschedule.errContextTooBig", "pub-convoy/pub/dtls/pkg/crypto/keyschedule.errLengthTooBig"], apart := false, laid := [("pub-convoy/pub/dtls/pkg/crypto/keyschedule.errMissingHashFunction", laid_pub_convoy_pub_dtls_pkg_crypto_keyschedule_errMissingHashFunction), ("pub-convoy/pub/dtls/pkg/crypto/keyschedule.errLabelTooSmall", laid_pub_convoy_pub_dtls_pkg_crypto_keyschedule_errLabelTooSmall), ("pub-convoy/pub/dtls/pkg/crypto/keyschedule.errLabelTooBig", laid_pub_convoy_pub_dtls_pkg_crypto_keyschedule_errLabelTooBig), ("pub-convoy/pub/dtls/pkg/crypto/keyschedule.errContextTooBig", laid_pub_convoy_pub_dtls_pkg_crypto_keyschedule_errContextTooBig), ("pub-convoy/pub/dtls/pkg/crypto/keyschedule.errLengthTooBig", laid_pub_convoy_pub_dtls_pkg_crypto_keyschedule_errLengthTooBig)] }
def FnDeriveSecretSaid : Prop := fnDeriveSecretRow.holds Tryd.pinned (OpenSpec.ofChange fnDeriveSecretSpec)

/-- ITS FALSE NEIGHBOUR: 'it returns false'. Refute it at one input. -/
def fnDeriveSecretWrong : ChangeSpec := { name := "fnDeriveSecret", fn := fun _ => fun
  | [d1, d2, d3, d4] => { results := [.lit (.bool false)], args := [d1, d2, d3, d4] }
  | _ => none }
def FnDeriveSecretWrongFalsely : Prop := fnDeriveSecretRow.holds Tryd.pinned (OpenSpec.ofChange fnDeriveSecretWrong)

/- THE SECOND FORM. 'bulk': how many values and letters a reading holds, each counted each time it is reached (what is shared counts as often as it is met; a slice's spare places count too). A statement '..UptoSaid' is the law's where the arguments, and the package variables that the reading takes, are together of bulk at most 1048576: NARROWER than '..Said'. Prove '..Said' where nothing that the law and all that it calls make is longer than what came in: it says more and counts as full. Else prove '..UptoSaid'. A law counts once. -/
mutual
def uptoBulk {H : Type} : DataW H → Nat
  | .lit (.string bytes) => bytes.length + 1
  | .lit _ => 1
  | .nil => 1
  | .ptr d => uptoBulk d + 1
  | .slice elems spare => uptoBulkAll elems + uptoBulkAll spare + 1
  | .agg parts => uptoBulkAll parts + 1
  | .iface _ d => uptoBulk d + 1
  | .map entries => uptoBulkEntries entries + 1
  | .held _ => 1
def uptoBulkAll {H : Type} : List (DataW H) → Nat
  | [] => 0
  | d :: r => uptoBulk d + uptoBulkAll r
def uptoBulkEntries {H : Type} : List (Lit × DataW H) → Nat
  | [] => 0
  | x :: r => uptoBulkEntry x + uptoBulkEntries r
def uptoBulkEntry {H : Type} : Lit × DataW H → Nat
  | (.string bytes, d) => bytes.length + uptoBulk d + 1
  | (_, d) => uptoBulk d + 1
 end
def uptoSmall : (H : Type) → List (DataW H) → Bool := fun _ ds => decide (uptoBulkAll ds ≤ 1048576)
def OpenSpec.upto (s : _root_.Go.ChangeSpec) : _root_.Go.OpenSpec := { _root_.Go.OpenSpec.ofChange s with cond := some uptoSmall }

/-- 'laws.FnDeriveSecret', WHERE WHAT IT READS IS OF BULK AT MOST 1048576: true; the input reads as it did. -/
def fnDeriveSecretUptoRow : OpenClaim := { program := "ytohankdfnjogfaadoor", sum := "1e22faecc88b83c8c63a5d3ad9fc492b307dcde70ce76646b71ded7163dfae44", func := "pub-convoy/laws.FnDeriveSecret", spec := "fnDeriveSecret", unfollowed := true, recurses := true, named := ["pub-convoy/pub/dtls/pkg/crypto/keyschedule.errMissingHashFunction", "pub-convoy/pub/dtls/pkg/crypto/keyschedule.errLabelTooSmall", "pub-convoy/pub/dtls/pkg/crypto/keyschedule.errLabelTooBig", "pub-convoy/pub/dtls/pkg/crypto/keyschedule.errContextTooBig", "pub-convoy/pub/dtls/pkg/crypto/keyschedule.errLengthTooBig"], apart := false, laid := [("pub-convoy/pub/dtls/pkg/crypto/keyschedule.errMissingHashFunction", laid_pub_convoy_pub_dtls_pkg_crypto_keyschedule_errMissingHashFunction), ("pub-convoy/pub/dtls/pkg/crypto/keyschedule.errLabelTooSmall", laid_pub_convoy_pub_dtls_pkg_crypto_keyschedule_errLabelTooSmall), ("pub-convoy/pub/dtls/pkg/crypto/keyschedule.errLabelTooBig", laid_pub_convoy_pub_dtls_pkg_crypto_keyschedule_errLabelTooBig), ("pub-convoy/pub/dtls/pkg/crypto/keyschedule.errContextTooBig", laid_pub_convoy_pub_dtls_pkg_crypto_keyschedule_errContextTooBig), ("pub-convoy/pub/dtls/pkg/crypto/keyschedule.errLengthTooBig", laid_pub_convoy_pub_dtls_pkg_crypto_keyschedule_errLengthTooBig)], narrowed := true }
def FnDeriveSecretUptoSaid : Prop := fnDeriveSecretUptoRow.holds Tryd.pinned (OpenSpec.upto fnDeriveSecretSpec)

end Rows
end Go.Proofs.YtohankdfnjogfaaDoor
