/-
  DERIVED. GIVEN WITH THE SEED: THE PROGRAM's TIES (one call each: nine closed facts by the kernel) AND EACH ROW's TIE, after the 31st guide's Derived/Test/Toyas{Tie, Card}.lean. No idea stands in it: it is a product of the set-up. Laid BY PROGRAM, IN A SANDBOX (cutbox-door.mjs). By AI agents, Wed Nov 11 2026. No macro, syntax, notation, axiom, sorry.
-/
import Derived.Test.YtehlmjecbljafaaGreatDoorRows
import Derived.LaidByTextLater
import Derived.SevenTiedAt
import Derived.LaidSub
import Derived.LaidOnce
namespace Go.Proofs.YtehlmjecbljafaaGreatDoor
open Go
set_option maxRecDepth 100000
theorem seatTie1 : Tryz.prog.laidByTextLater [("math/bits.deBruijn32tab", Rows.laid_math_bits_deBruijn32tab), ("math/bits.deBruijn64tab", Rows.laid_math_bits_deBruijn64tab), ("internal/strconv.uint64pow10", Rows.laid_internal_strconv_uint64pow10), ("pub-tokenroad/pub/natsserver/server/gsl.ErrInvalidSubject", Rows.laid_pub_tokenroad_pub_natsserver_server_gsl_ErrInvalidSubject), ("pub-tokenroad/pub/natsserver/server/gsl.ErrNotFound", Rows.laid_pub_tokenroad_pub_natsserver_server_gsl_ErrNotFound), ("pub-tokenroad/pub/natsserver/server.ErrBadSubject", Rows.laid_pub_tokenroad_pub_natsserver_server_ErrBadSubject), ("pub-tokenroad/pub/natsserver/server.ErrNoTransforms", Rows.laid_pub_tokenroad_pub_natsserver_server_ErrNoTransforms), ("pub-tokenroad/pub/natsserver/server.ErrInvalidSubject", Rows.laid_pub_tokenroad_pub_natsserver_server_ErrInvalidSubject), ("pub-tokenroad/pub/natsserver/server.ErrNotFound", Rows.laid_pub_tokenroad_pub_natsserver_server_ErrNotFound)] [.data, .data, .data, .sentinel, .sentinel, .sentinel, .sentinel, .sentinel, .sentinel] true :=
  Program.laidByTextLater_by_one 138 8 65 (by kernel_rfl) (by kernel_rfl) (by kernel_rfl) (by kernel_rfl) (by kernel_rfl) (by kernel_rfl) (fun _ _ => by kernel_rfl)
theorem noOwnUnsafe : Tryz.pinned.checked.prog.headLifts.contains "ownunsafe" = false := by kernel_rfl
theorem tie : Tryz.prog.laidByTextLater [("math/bits.deBruijn32tab", Rows.laid_math_bits_deBruijn32tab), ("math/bits.deBruijn64tab", Rows.laid_math_bits_deBruijn64tab), ("internal/strconv.uint64pow10", Rows.laid_internal_strconv_uint64pow10), ("pub-tokenroad/pub/natsserver/server/gsl.ErrInvalidSubject", Rows.laid_pub_tokenroad_pub_natsserver_server_gsl_ErrInvalidSubject), ("pub-tokenroad/pub/natsserver/server/gsl.ErrNotFound", Rows.laid_pub_tokenroad_pub_natsserver_server_gsl_ErrNotFound), ("pub-tokenroad/pub/natsserver/server.ErrBadSubject", Rows.laid_pub_tokenroad_pub_natsserver_server_ErrBadSubject), ("pub-tokenroad/pub/natsserver/server.ErrNoTransforms", Rows.laid_pub_tokenroad_pub_natsserver_server_ErrNoTransforms)] [.data, .data, .data, .sentinel, .sentinel, .sentinel, .sentinel] true :=
  Program.laidByTextLater.sub seatTie1 ["math/bits.deBruijn32tab", "math/bits.deBruijn64tab", "internal/strconv.uint64pow10", "pub-tokenroad/pub/natsserver/server/gsl.ErrInvalidSubject", "pub-tokenroad/pub/natsserver/server/gsl.ErrNotFound", "pub-tokenroad/pub/natsserver/server.ErrBadSubject", "pub-tokenroad/pub/natsserver/server.ErrNoTransforms"] (by kernel_rfl) (by kernel_rfl)
theorem fnRoadMapped_row_tie : Rows.fnRoadMappedRow.laidByTextAt .later Tryz.pinned [.data, .data, .data, .sentinel, .sentinel, .sentinel, .sentinel] true :=
  OpenClaim.laidByTextAt_later rfl rfl tie noOwnUnsafe
theorem tie2 : Tryz.prog.laidByTextLater [("pub-tokenroad/pub/natsserver/server/gsl.ErrInvalidSubject", Rows.laid_pub_tokenroad_pub_natsserver_server_gsl_ErrInvalidSubject), ("pub-tokenroad/pub/natsserver/server/gsl.ErrNotFound", Rows.laid_pub_tokenroad_pub_natsserver_server_gsl_ErrNotFound), ("pub-tokenroad/pub/natsserver/server.ErrInvalidSubject", Rows.laid_pub_tokenroad_pub_natsserver_server_ErrInvalidSubject), ("pub-tokenroad/pub/natsserver/server.ErrNotFound", Rows.laid_pub_tokenroad_pub_natsserver_server_ErrNotFound)] [.sentinel, .sentinel, .sentinel, .sentinel] true :=
  Program.laidByTextLater.sub seatTie1 ["pub-tokenroad/pub/natsserver/server/gsl.ErrInvalidSubject", "pub-tokenroad/pub/natsserver/server/gsl.ErrNotFound", "pub-tokenroad/pub/natsserver/server.ErrInvalidSubject", "pub-tokenroad/pub/natsserver/server.ErrNotFound"] (by kernel_rfl) (by kernel_rfl)
theorem fnRoadDual_row_tie : Rows.fnRoadDualRow.laidByTextAt .later Tryz.pinned [.sentinel, .sentinel, .sentinel, .sentinel] true :=
  OpenClaim.laidByTextAt_later rfl rfl tie2 noOwnUnsafe
theorem fnRoadThree_row_tie : Rows.fnRoadThreeRow.laidByTextAt .later Tryz.pinned [.sentinel, .sentinel, .sentinel, .sentinel] true :=
  OpenClaim.laidByTextAt_later rfl rfl tie2 noOwnUnsafe
theorem fnRoadMappedUpto_row_tie : Rows.fnRoadMappedUptoRow.laidByTextAt .later Tryz.pinned [.data, .data, .data, .sentinel, .sentinel, .sentinel, .sentinel] true :=
  OpenClaim.laidByTextAt_later rfl rfl tie noOwnUnsafe
theorem fnRoadDualUpto_row_tie : Rows.fnRoadDualUptoRow.laidByTextAt .later Tryz.pinned [.sentinel, .sentinel, .sentinel, .sentinel] true :=
  OpenClaim.laidByTextAt_later rfl rfl tie2 noOwnUnsafe
theorem fnRoadThreeUpto_row_tie : Rows.fnRoadThreeUptoRow.laidByTextAt .later Tryz.pinned [.sentinel, .sentinel, .sentinel, .sentinel] true :=
  OpenClaim.laidByTextAt_later rfl rfl tie2 noOwnUnsafe
end Go.Proofs.YtehlmjecbljafaaGreatDoor
