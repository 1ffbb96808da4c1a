/-
  DERIVED. GIVEN WITH THE SEED: THE PROGRAM's TIES (one call each: nine closed facts by the kernel) AND EACH ROW's TIE, after the 31st guide's Derived/Test/Toyas{Tie, Card}.lean. No idea stands in it: it is a product of the set-up. Laid BY PROGRAM, IN A SANDBOX (cutbox-door.mjs). By AI agents, Wed Nov 11 2026. No macro, syntax, notation, axiom, sorry.
-/
import Derived.Test.YtgnkfpfgolhokaaDoorRows
import Derived.LaidByTextLater
import Derived.SevenTiedAt
import Derived.LaidSub
import Derived.LaidOnce
namespace Go.Proofs.YtgnkfpfgolhokaaDoor
open Go
set_option maxRecDepth 100000
theorem seatTie1 : Tryd.prog.laidByTextLater [("pub-convoy/pub/dtls/pkg/protocol/extension.errBufferTooSmall", Rows.laid_pub_convoy_pub_dtls_pkg_protocol_extension_errBufferTooSmall), ("pub-convoy/pub/dtls/pkg/protocol/extension.errInvalidExtensionType", Rows.laid_pub_convoy_pub_dtls_pkg_protocol_extension_errInvalidExtensionType), ("pub-convoy/pub/dtls/pkg/protocol/extension.errLengthMismatch", Rows.laid_pub_convoy_pub_dtls_pkg_protocol_extension_errLengthMismatch), ("pub-convoy/pub/dtls/pkg/protocol/extension.errPreSharedKeyFormat", Rows.laid_pub_convoy_pub_dtls_pkg_protocol_extension_errPreSharedKeyFormat), ("pub-convoy/pub/dtls/pkg/protocol/extension.errPskKeyExchangeModesFormat", Rows.laid_pub_convoy_pub_dtls_pkg_protocol_extension_errPskKeyExchangeModesFormat), ("pub-convoy/pub/dtls/pkg/protocol/extension.errNoPskKeyExchangeMode", Rows.laid_pub_convoy_pub_dtls_pkg_protocol_extension_errNoPskKeyExchangeMode), ("pub-convoy/pub/dtls/pkg/protocol/extension.errCookieExtFormat", Rows.laid_pub_convoy_pub_dtls_pkg_protocol_extension_errCookieExtFormat), ("pub-convoy/pub/dtls/pkg/protocol/extension.errInvalidKeyShareFormat", Rows.laid_pub_convoy_pub_dtls_pkg_protocol_extension_errInvalidKeyShareFormat), ("pub-convoy/pub/dtls/pkg/protocol/extension.errDuplicateKeyShare", Rows.laid_pub_convoy_pub_dtls_pkg_protocol_extension_errDuplicateKeyShare), ("pub-convoy/pub/dtls/pkg/protocol/extension.errEmptyOIDFilter", Rows.laid_pub_convoy_pub_dtls_pkg_protocol_extension_errEmptyOIDFilter), ("pub-convoy/pub/dtls/pkg/protocol/extension.errDuplicateOID", Rows.laid_pub_convoy_pub_dtls_pkg_protocol_extension_errDuplicateOID)] [.sentinel, .sentinel, .sentinel, .sentinel, .sentinel, .sentinel, .sentinel, .sentinel, .sentinel, .sentinel, .sentinel] true :=
  Program.laidByTextLater_by_one 218 8 2 (by kernel_rfl) (by kernel_rfl) (by kernel_rfl) (by kernel_rfl) (by kernel_rfl) (by kernel_rfl) (fun _ _ => by kernel_rfl)
theorem noOwnUnsafe : Tryd.pinned.checked.prog.headLifts.contains "ownunsafe" = false := by kernel_rfl
theorem tie : Tryd.prog.laidByTextLater [("pub-convoy/pub/dtls/pkg/protocol/extension.errCookieExtFormat", Rows.laid_pub_convoy_pub_dtls_pkg_protocol_extension_errCookieExtFormat)] [.sentinel] true :=
  Program.laidByTextLater.sub seatTie1 ["pub-convoy/pub/dtls/pkg/protocol/extension.errCookieExtFormat"] (by kernel_rfl) (by kernel_rfl)
theorem fnCookieRefused_row_tie : Rows.fnCookieRefusedRow.laidByTextAt .later Tryd.pinned [.sentinel] true :=
  OpenClaim.laidByTextAt_later rfl rfl tie noOwnUnsafe
theorem tie2 : Tryd.prog.laidByTextLater [("pub-convoy/pub/dtls/pkg/protocol/extension.errEmptyOIDFilter", Rows.laid_pub_convoy_pub_dtls_pkg_protocol_extension_errEmptyOIDFilter), ("pub-convoy/pub/dtls/pkg/protocol/extension.errDuplicateOID", Rows.laid_pub_convoy_pub_dtls_pkg_protocol_extension_errDuplicateOID)] [.sentinel, .sentinel] true :=
  Program.laidByTextLater.sub seatTie1 ["pub-convoy/pub/dtls/pkg/protocol/extension.errEmptyOIDFilter", "pub-convoy/pub/dtls/pkg/protocol/extension.errDuplicateOID"] (by kernel_rfl) (by kernel_rfl)
theorem fnOIDFiltersWrite_row_tie : Rows.fnOIDFiltersWriteRow.laidByTextAt .later Tryd.pinned [.sentinel, .sentinel] true :=
  OpenClaim.laidByTextAt_later rfl rfl tie2 noOwnUnsafe
theorem tie3 : Tryd.prog.laidByTextLater [("pub-convoy/pub/dtls/pkg/protocol/extension.errPreSharedKeyFormat", Rows.laid_pub_convoy_pub_dtls_pkg_protocol_extension_errPreSharedKeyFormat)] [.sentinel] true :=
  Program.laidByTextLater.sub seatTie1 ["pub-convoy/pub/dtls/pkg/protocol/extension.errPreSharedKeyFormat"] (by kernel_rfl) (by kernel_rfl)
theorem fnPreSharedKeySelectedWrite_row_tie : Rows.fnPreSharedKeySelectedWriteRow.laidByTextAt .later Tryd.pinned [.sentinel] true :=
  OpenClaim.laidByTextAt_later rfl rfl tie3 noOwnUnsafe
theorem tie4 : Tryd.prog.laidByTextLater [("pub-convoy/pub/dtls/pkg/protocol/extension.errInvalidKeyShareFormat", Rows.laid_pub_convoy_pub_dtls_pkg_protocol_extension_errInvalidKeyShareFormat), ("pub-convoy/pub/dtls/pkg/protocol/extension.errDuplicateKeyShare", Rows.laid_pub_convoy_pub_dtls_pkg_protocol_extension_errDuplicateKeyShare)] [.sentinel, .sentinel] true :=
  Program.laidByTextLater.sub seatTie1 ["pub-convoy/pub/dtls/pkg/protocol/extension.errInvalidKeyShareFormat", "pub-convoy/pub/dtls/pkg/protocol/extension.errDuplicateKeyShare"] (by kernel_rfl) (by kernel_rfl)
theorem fnKeyShareServerWrite_row_tie : Rows.fnKeyShareServerWriteRow.laidByTextAt .later Tryd.pinned [.sentinel, .sentinel] true :=
  OpenClaim.laidByTextAt_later rfl rfl tie4 noOwnUnsafe
theorem tie5 : Tryd.prog.laidByTextLater [("pub-convoy/pub/dtls/pkg/protocol/extension.errBufferTooSmall", Rows.laid_pub_convoy_pub_dtls_pkg_protocol_extension_errBufferTooSmall), ("pub-convoy/pub/dtls/pkg/protocol/extension.errInvalidExtensionType", Rows.laid_pub_convoy_pub_dtls_pkg_protocol_extension_errInvalidExtensionType), ("pub-convoy/pub/dtls/pkg/protocol/extension.errLengthMismatch", Rows.laid_pub_convoy_pub_dtls_pkg_protocol_extension_errLengthMismatch), ("pub-convoy/pub/dtls/pkg/protocol/extension.errPskKeyExchangeModesFormat", Rows.laid_pub_convoy_pub_dtls_pkg_protocol_extension_errPskKeyExchangeModesFormat), ("pub-convoy/pub/dtls/pkg/protocol/extension.errNoPskKeyExchangeMode", Rows.laid_pub_convoy_pub_dtls_pkg_protocol_extension_errNoPskKeyExchangeMode)] [.sentinel, .sentinel, .sentinel, .sentinel, .sentinel] true :=
  Program.laidByTextLater.sub seatTie1 ["pub-convoy/pub/dtls/pkg/protocol/extension.errBufferTooSmall", "pub-convoy/pub/dtls/pkg/protocol/extension.errInvalidExtensionType", "pub-convoy/pub/dtls/pkg/protocol/extension.errLengthMismatch", "pub-convoy/pub/dtls/pkg/protocol/extension.errPskKeyExchangeModesFormat", "pub-convoy/pub/dtls/pkg/protocol/extension.errNoPskKeyExchangeMode"] (by kernel_rfl) (by kernel_rfl)
theorem fnPskModesRefused_row_tie : Rows.fnPskModesRefusedRow.laidByTextAt .later Tryd.pinned [.sentinel, .sentinel, .sentinel, .sentinel, .sentinel] true :=
  OpenClaim.laidByTextAt_later rfl rfl tie5 noOwnUnsafe
theorem fnCookieRefusedUpto_row_tie : Rows.fnCookieRefusedUptoRow.laidByTextAt .later Tryd.pinned [.sentinel] true :=
  OpenClaim.laidByTextAt_later rfl rfl tie noOwnUnsafe
theorem fnOIDFiltersWriteUpto_row_tie : Rows.fnOIDFiltersWriteUptoRow.laidByTextAt .later Tryd.pinned [.sentinel, .sentinel] true :=
  OpenClaim.laidByTextAt_later rfl rfl tie2 noOwnUnsafe
theorem fnPreSharedKeySelectedWriteUpto_row_tie : Rows.fnPreSharedKeySelectedWriteUptoRow.laidByTextAt .later Tryd.pinned [.sentinel] true :=
  OpenClaim.laidByTextAt_later rfl rfl tie3 noOwnUnsafe
theorem fnKeyShareServerWriteUpto_row_tie : Rows.fnKeyShareServerWriteUptoRow.laidByTextAt .later Tryd.pinned [.sentinel, .sentinel] true :=
  OpenClaim.laidByTextAt_later rfl rfl tie4 noOwnUnsafe
theorem fnPskModesRefusedUpto_row_tie : Rows.fnPskModesRefusedUptoRow.laidByTextAt .later Tryd.pinned [.sentinel, .sentinel, .sentinel, .sentinel, .sentinel] true :=
  OpenClaim.laidByTextAt_later rfl rfl tie5 noOwnUnsafe
end Go.Proofs.YtgnkfpfgolhokaaDoor
