/-
  DERIVED. GIVEN WITH THE SEED: THE PROGRAM's TIES (one call each: nine closed facts by the kernel) AND EACH ROW's TIE, after the 31st guide's Derived/Test/Toyas{Tie, Card}.lean. No idea stands in it: it is a product of the set-up. Laid BY PROGRAM, IN A SANDBOX (cutbox-door.mjs). By AI agents, Wed Nov 11 2026. No macro, syntax, notation, axiom, sorry.
-/
import Derived.Test.YtohankdfnjogfaaDoorRows
import Derived.LaidByTextLater
import Derived.SevenTiedAt
import Derived.LaidSub
import Derived.LaidOnce
namespace Go.Proofs.YtohankdfnjogfaaDoor
open Go
set_option maxRecDepth 100000
theorem seatTie1 : Tryd.prog.laidByTextLater [("pub-convoy/pub/dtls/pkg/crypto/keyschedule.errMissingHashFunction", Rows.laid_pub_convoy_pub_dtls_pkg_crypto_keyschedule_errMissingHashFunction), ("pub-convoy/pub/dtls/pkg/crypto/keyschedule.errLabelTooSmall", Rows.laid_pub_convoy_pub_dtls_pkg_crypto_keyschedule_errLabelTooSmall), ("pub-convoy/pub/dtls/pkg/crypto/keyschedule.errLabelTooBig", Rows.laid_pub_convoy_pub_dtls_pkg_crypto_keyschedule_errLabelTooBig), ("pub-convoy/pub/dtls/pkg/crypto/keyschedule.errContextTooBig", Rows.laid_pub_convoy_pub_dtls_pkg_crypto_keyschedule_errContextTooBig), ("pub-convoy/pub/dtls/pkg/crypto/keyschedule.errLengthTooBig", Rows.laid_pub_convoy_pub_dtls_pkg_crypto_keyschedule_errLengthTooBig)] [.sentinel, .sentinel, .sentinel, .sentinel, .sentinel] true :=
  Program.laidByTextLater_by_one 104 8 2 (by kernel_rfl) (by kernel_rfl) (by kernel_rfl) (by kernel_rfl) (by kernel_rfl) (by kernel_rfl) (fun _ _ => by kernel_rfl)
theorem noOwnUnsafe : Tryd.pinned.checked.prog.headLifts.contains "ownunsafe" = false := by kernel_rfl
theorem tie : Tryd.prog.laidByTextLater [("pub-convoy/pub/dtls/pkg/crypto/keyschedule.errMissingHashFunction", Rows.laid_pub_convoy_pub_dtls_pkg_crypto_keyschedule_errMissingHashFunction), ("pub-convoy/pub/dtls/pkg/crypto/keyschedule.errLabelTooSmall", Rows.laid_pub_convoy_pub_dtls_pkg_crypto_keyschedule_errLabelTooSmall), ("pub-convoy/pub/dtls/pkg/crypto/keyschedule.errLabelTooBig", Rows.laid_pub_convoy_pub_dtls_pkg_crypto_keyschedule_errLabelTooBig), ("pub-convoy/pub/dtls/pkg/crypto/keyschedule.errContextTooBig", Rows.laid_pub_convoy_pub_dtls_pkg_crypto_keyschedule_errContextTooBig), ("pub-convoy/pub/dtls/pkg/crypto/keyschedule.errLengthTooBig", Rows.laid_pub_convoy_pub_dtls_pkg_crypto_keyschedule_errLengthTooBig)] [.sentinel, .sentinel, .sentinel, .sentinel, .sentinel] true :=
  Program.laidByTextLater.sub seatTie1 ["pub-convoy/pub/dtls/pkg/crypto/keyschedule.errMissingHashFunction", "pub-convoy/pub/dtls/pkg/crypto/keyschedule.errLabelTooSmall", "pub-convoy/pub/dtls/pkg/crypto/keyschedule.errLabelTooBig", "pub-convoy/pub/dtls/pkg/crypto/keyschedule.errContextTooBig", "pub-convoy/pub/dtls/pkg/crypto/keyschedule.errLengthTooBig"] (by kernel_rfl) (by kernel_rfl)
theorem fnDeriveSecret_row_tie : Rows.fnDeriveSecretRow.laidByTextAt .later Tryd.pinned [.sentinel, .sentinel, .sentinel, .sentinel, .sentinel] true :=
  OpenClaim.laidByTextAt_later rfl rfl tie noOwnUnsafe
theorem fnDeriveSecretUpto_row_tie : Rows.fnDeriveSecretUptoRow.laidByTextAt .later Tryd.pinned [.sentinel, .sentinel, .sentinel, .sentinel, .sentinel] true :=
  OpenClaim.laidByTextAt_later rfl rfl tie noOwnUnsafe
end Go.Proofs.YtohankdfnjogfaaDoor
