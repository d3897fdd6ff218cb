/-
  DERIVED. GIVEN WITH THE SEED: THE PROGRAM's TIES (one call each: nine closed facts by the kernel) AND EACH ROW's TIE, after the 31st guide's Derived/Test/Toyas{Tie, Card}.lean. No idea stands in it: it is a product of the set-up. Laid BY PROGRAM, IN A SANDBOX (cutbox-door.mjs). By AI agents, Wed Nov 11 2026. No macro, syntax, notation, axiom, sorry.
-/
import Derived.Test.YtchphfdoneckeaaDoorRows
import Derived.LaidByTextLater
import Derived.SevenTiedAt
import Derived.LaidSub
import Derived.LaidOnce
namespace Go.Proofs.YtchphfdoneckeaaDoor
open Go
set_option maxRecDepth 100000
theorem seatTie1 : Tryd.prog.laidByTextLater [("pub-streamkeep/pub/natsserver/server.errCorruptState", Rows.laid_pub_streamkeep_pub_natsserver_server_errCorruptState), ("pub-streamkeep/pub/natsserver/server.ErrStoreClosed", Rows.laid_pub_streamkeep_pub_natsserver_server_ErrStoreClosed), ("pub-streamkeep/pub/natsserver/server.ErrStoreMsgNotFound", Rows.laid_pub_streamkeep_pub_natsserver_server_ErrStoreMsgNotFound), ("pub-streamkeep/pub/natsserver/server.ErrNoAckPolicy", Rows.laid_pub_streamkeep_pub_natsserver_server_ErrNoAckPolicy), ("pub-streamkeep/pub/natsserver/server.ErrStoreOldUpdate", Rows.laid_pub_streamkeep_pub_natsserver_server_ErrStoreOldUpdate)] [.sentinel, .sentinel, .sentinel, .sentinel, .sentinel] true :=
  Program.laidByTextLater_by_one 104 8 2 (by kernel_rfl) (by kernel_rfl) (by kernel_rfl) (by kernel_rfl) (by kernel_rfl) (by kernel_rfl) (fun _ _ => by kernel_rfl)
theorem noOwnUnsafe : Tryd.pinned.checked.prog.headLifts.contains "ownunsafe" = false := by kernel_rfl
theorem tie : Tryd.prog.laidByTextLater [("pub-streamkeep/pub/natsserver/server.ErrStoreClosed", Rows.laid_pub_streamkeep_pub_natsserver_server_ErrStoreClosed), ("pub-streamkeep/pub/natsserver/server.ErrStoreMsgNotFound", Rows.laid_pub_streamkeep_pub_natsserver_server_ErrStoreMsgNotFound), ("pub-streamkeep/pub/natsserver/server.ErrNoAckPolicy", Rows.laid_pub_streamkeep_pub_natsserver_server_ErrNoAckPolicy), ("pub-streamkeep/pub/natsserver/server.ErrStoreOldUpdate", Rows.laid_pub_streamkeep_pub_natsserver_server_ErrStoreOldUpdate)] [.sentinel, .sentinel, .sentinel, .sentinel] true :=
  Program.laidByTextLater.sub seatTie1 ["pub-streamkeep/pub/natsserver/server.ErrStoreClosed", "pub-streamkeep/pub/natsserver/server.ErrStoreMsgNotFound", "pub-streamkeep/pub/natsserver/server.ErrNoAckPolicy", "pub-streamkeep/pub/natsserver/server.ErrStoreOldUpdate"] (by kernel_rfl) (by kernel_rfl)
theorem fnConsumerOrder_row_tie : Rows.fnConsumerOrderRow.laidByTextAt .later Tryd.pinned [.sentinel, .sentinel, .sentinel, .sentinel] true :=
  OpenClaim.laidByTextAt_later rfl rfl tie noOwnUnsafe
theorem fnConsumerTwice_row_tie : Rows.fnConsumerTwiceRow.laidByTextAt .later Tryd.pinned [.sentinel, .sentinel, .sentinel, .sentinel] true :=
  OpenClaim.laidByTextAt_later rfl rfl tie noOwnUnsafe
theorem fnConsumerUpdate_row_tie : Rows.fnConsumerUpdateRow.laidByTextAt .later Tryd.pinned [.sentinel, .sentinel, .sentinel, .sentinel] true :=
  OpenClaim.laidByTextAt_later rfl rfl tie noOwnUnsafe
theorem tie2 : Tryd.prog.laidByTextLater [("pub-streamkeep/pub/natsserver/server.errCorruptState", Rows.laid_pub_streamkeep_pub_natsserver_server_errCorruptState), ("pub-streamkeep/pub/natsserver/server.ErrStoreClosed", Rows.laid_pub_streamkeep_pub_natsserver_server_ErrStoreClosed), ("pub-streamkeep/pub/natsserver/server.ErrStoreMsgNotFound", Rows.laid_pub_streamkeep_pub_natsserver_server_ErrStoreMsgNotFound), ("pub-streamkeep/pub/natsserver/server.ErrNoAckPolicy", Rows.laid_pub_streamkeep_pub_natsserver_server_ErrNoAckPolicy), ("pub-streamkeep/pub/natsserver/server.ErrStoreOldUpdate", Rows.laid_pub_streamkeep_pub_natsserver_server_ErrStoreOldUpdate)] [.sentinel, .sentinel, .sentinel, .sentinel, .sentinel] true :=
  Program.laidByTextLater.sub seatTie1 ["pub-streamkeep/pub/natsserver/server.errCorruptState", "pub-streamkeep/pub/natsserver/server.ErrStoreClosed", "pub-streamkeep/pub/natsserver/server.ErrStoreMsgNotFound", "pub-streamkeep/pub/natsserver/server.ErrNoAckPolicy", "pub-streamkeep/pub/natsserver/server.ErrStoreOldUpdate"] (by kernel_rfl) (by kernel_rfl)
theorem fnConsumerBack_row_tie : Rows.fnConsumerBackRow.laidByTextAt .later Tryd.pinned [.sentinel, .sentinel, .sentinel, .sentinel, .sentinel] true :=
  OpenClaim.laidByTextAt_later rfl rfl tie2 noOwnUnsafe
theorem fnConsumerOrderUpto_row_tie : Rows.fnConsumerOrderUptoRow.laidByTextAt .later Tryd.pinned [.sentinel, .sentinel, .sentinel, .sentinel] true :=
  OpenClaim.laidByTextAt_later rfl rfl tie noOwnUnsafe
theorem fnConsumerTwiceUpto_row_tie : Rows.fnConsumerTwiceUptoRow.laidByTextAt .later Tryd.pinned [.sentinel, .sentinel, .sentinel, .sentinel] true :=
  OpenClaim.laidByTextAt_later rfl rfl tie noOwnUnsafe
theorem fnConsumerUpdateUpto_row_tie : Rows.fnConsumerUpdateUptoRow.laidByTextAt .later Tryd.pinned [.sentinel, .sentinel, .sentinel, .sentinel] true :=
  OpenClaim.laidByTextAt_later rfl rfl tie noOwnUnsafe
theorem fnConsumerBackUpto_row_tie : Rows.fnConsumerBackUptoRow.laidByTextAt .later Tryd.pinned [.sentinel, .sentinel, .sentinel, .sentinel, .sentinel] true :=
  OpenClaim.laidByTextAt_later rfl rfl tie2 noOwnUnsafe
end Go.Proofs.YtchphfdoneckeaaDoor
