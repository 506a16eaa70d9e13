/-
  DERIVED. GIVEN WITH THE SEED: THE PROGRAM's TIES (one call each: nine closed facts by the kernel) AND EACH ROW's TIE, after the 31st guide's Derived/Test/Toyas{Tie, Card}.lean. No idea stands in it: it is a product of the set-up. Laid BY PROGRAM, IN A SANDBOX (cutbox-door.mjs). By AI agents, Wed Nov 11 2026. No macro, syntax, notation, axiom, sorry.
-/
import Derived.Test.YtjflijebcpcbmaaDoorRows
import Derived.LaidByTextLater
import Derived.SevenTiedAt
import Derived.LaidSub
import Derived.LaidOnce
namespace Go.Proofs.YtjflijebcpcbmaaDoor
open Go
set_option maxRecDepth 100000
theorem seatTie1 : Tryd.prog.laidByTextLater [("pub-tandemry/pub/dtls/pkg/protocol.Version1_0", Rows.laid_pub_tandemry_pub_dtls_pkg_protocol_Version1_0), ("pub-tandemry/pub/dtls/pkg/protocol.Version1_2", Rows.laid_pub_tandemry_pub_dtls_pkg_protocol_Version1_2), ("pub-tandemry/pub/dtls/pkg/protocol/handshake.errBufferTooSmall", Rows.laid_pub_tandemry_pub_dtls_pkg_protocol_handshake_errBufferTooSmall), ("pub-tandemry/pub/dtls/pkg/protocol/recordlayer.errBufferTooSmall", Rows.laid_pub_tandemry_pub_dtls_pkg_protocol_recordlayer_errBufferTooSmall), ("pub-tandemry/pub/dtls/pkg/protocol/recordlayer.errUnsupportedProtocolVersion", Rows.laid_pub_tandemry_pub_dtls_pkg_protocol_recordlayer_errUnsupportedProtocolVersion), ("pub-tandemry/pub/dtls.errBufferTooSmall", Rows.laid_pub_tandemry_pub_dtls_errBufferTooSmall), ("pub-tandemry/pub/dtls.errFragmentBufferOverflow", Rows.laid_pub_tandemry_pub_dtls_errFragmentBufferOverflow)] [.data, .data, .sentinel, .sentinel, .sentinel, .sentinel, .sentinel] true :=
  Program.laidByTextLater_by_one 114 8 3 (by kernel_rfl) (by kernel_rfl) (by kernel_rfl) (by kernel_rfl) (by kernel_rfl) (by kernel_rfl) (fun _ _ => by kernel_rfl)
theorem noOwnUnsafe : Tryd.pinned.checked.prog.headLifts.contains "ownunsafe" = false := by kernel_rfl
theorem tie : Tryd.prog.laidByTextLater [("pub-tandemry/pub/dtls/pkg/protocol.Version1_0", Rows.laid_pub_tandemry_pub_dtls_pkg_protocol_Version1_0), ("pub-tandemry/pub/dtls/pkg/protocol.Version1_2", Rows.laid_pub_tandemry_pub_dtls_pkg_protocol_Version1_2), ("pub-tandemry/pub/dtls/pkg/protocol/handshake.errBufferTooSmall", Rows.laid_pub_tandemry_pub_dtls_pkg_protocol_handshake_errBufferTooSmall), ("pub-tandemry/pub/dtls/pkg/protocol/recordlayer.errBufferTooSmall", Rows.laid_pub_tandemry_pub_dtls_pkg_protocol_recordlayer_errBufferTooSmall), ("pub-tandemry/pub/dtls/pkg/protocol/recordlayer.errUnsupportedProtocolVersion", Rows.laid_pub_tandemry_pub_dtls_pkg_protocol_recordlayer_errUnsupportedProtocolVersion), ("pub-tandemry/pub/dtls.errBufferTooSmall", Rows.laid_pub_tandemry_pub_dtls_errBufferTooSmall), ("pub-tandemry/pub/dtls.errFragmentBufferOverflow", Rows.laid_pub_tandemry_pub_dtls_errFragmentBufferOverflow)] [.data, .data, .sentinel, .sentinel, .sentinel, .sentinel, .sentinel] true :=
  Program.laidByTextLater.sub seatTie1 ["pub-tandemry/pub/dtls/pkg/protocol.Version1_0", "pub-tandemry/pub/dtls/pkg/protocol.Version1_2", "pub-tandemry/pub/dtls/pkg/protocol/handshake.errBufferTooSmall", "pub-tandemry/pub/dtls/pkg/protocol/recordlayer.errBufferTooSmall", "pub-tandemry/pub/dtls/pkg/protocol/recordlayer.errUnsupportedProtocolVersion", "pub-tandemry/pub/dtls.errBufferTooSmall", "pub-tandemry/pub/dtls.errFragmentBufferOverflow"] (by kernel_rfl) (by kernel_rfl)
theorem fnCutAnew_row_tie : Rows.fnCutAnewRow.laidByTextAt .later Tryd.pinned [.data, .data, .sentinel, .sentinel, .sentinel, .sentinel, .sentinel] true :=
  OpenClaim.laidByTextAt_later rfl rfl tie noOwnUnsafe
theorem fnFragmentsAny_row_tie : Rows.fnFragmentsAnyRow.laidByTextAt .later Tryd.pinned [.data, .data, .sentinel, .sentinel, .sentinel, .sentinel, .sentinel] true :=
  OpenClaim.laidByTextAt_later rfl rfl tie noOwnUnsafe
theorem fnManyMixed_row_tie : Rows.fnManyMixedRow.laidByTextAt .later Tryd.pinned [.data, .data, .sentinel, .sentinel, .sentinel, .sentinel, .sentinel] true :=
  OpenClaim.laidByTextAt_later rfl rfl tie noOwnUnsafe
theorem fnPiecesEpoch_row_tie : Rows.fnPiecesEpochRow.laidByTextAt .later Tryd.pinned [.data, .data, .sentinel, .sentinel, .sentinel, .sentinel, .sentinel] true :=
  OpenClaim.laidByTextAt_later rfl rfl tie noOwnUnsafe
theorem fnPopsBetween_row_tie : Rows.fnPopsBetweenRow.laidByTextAt .later Tryd.pinned [.data, .data, .sentinel, .sentinel, .sentinel, .sentinel, .sentinel] true :=
  OpenClaim.laidByTextAt_later rfl rfl tie noOwnUnsafe
theorem fnCutAnewUpto_row_tie : Rows.fnCutAnewUptoRow.laidByTextAt .later Tryd.pinned [.data, .data, .sentinel, .sentinel, .sentinel, .sentinel, .sentinel] true :=
  OpenClaim.laidByTextAt_later rfl rfl tie noOwnUnsafe
theorem fnFragmentsAnyUpto_row_tie : Rows.fnFragmentsAnyUptoRow.laidByTextAt .later Tryd.pinned [.data, .data, .sentinel, .sentinel, .sentinel, .sentinel, .sentinel] true :=
  OpenClaim.laidByTextAt_later rfl rfl tie noOwnUnsafe
theorem fnManyMixedUpto_row_tie : Rows.fnManyMixedUptoRow.laidByTextAt .later Tryd.pinned [.data, .data, .sentinel, .sentinel, .sentinel, .sentinel, .sentinel] true :=
  OpenClaim.laidByTextAt_later rfl rfl tie noOwnUnsafe
theorem fnPiecesEpochUpto_row_tie : Rows.fnPiecesEpochUptoRow.laidByTextAt .later Tryd.pinned [.data, .data, .sentinel, .sentinel, .sentinel, .sentinel, .sentinel] true :=
  OpenClaim.laidByTextAt_later rfl rfl tie noOwnUnsafe
theorem fnPopsBetweenUpto_row_tie : Rows.fnPopsBetweenUptoRow.laidByTextAt .later Tryd.pinned [.data, .data, .sentinel, .sentinel, .sentinel, .sentinel, .sentinel] true :=
  OpenClaim.laidByTextAt_later rfl rfl tie noOwnUnsafe
end Go.Proofs.YtjflijebcpcbmaaDoor
