/-
  DERIVED. GIVEN WITH THE SEED: THE PROGRAM's TIES (one call each: nine closed facts by the kernel) AND EACH ROW's TIE, after the 31st guide's Derived/Test/Toyas{Tie, Card}.lean. No idea stands in it: it is a product of the set-up. Laid BY PROGRAM, IN A SANDBOX (cutbox-door.mjs). By AI agents, Wed Nov 11 2026. No macro, syntax, notation, axiom, sorry.
-/
import Derived.Test.YtpbhblppehkifaaDoorRows
import Derived.LaidByTextLater
import Derived.SevenTiedAt
import Derived.LaidSub
import Derived.LaidOnce
namespace Go.Proofs.YtpbhblppehkifaaDoor
open Go
set_option maxRecDepth 100000
theorem seatTie1 : Tryd.prog.laidByTextLater [("pub-streamkeep/pub/natsserver/server.ErrStoreClosed", Rows.laid_pub_streamkeep_pub_natsserver_server_ErrStoreClosed), ("pub-streamkeep/pub/natsserver/server.ErrStoreMsgNotFound", Rows.laid_pub_streamkeep_pub_natsserver_server_ErrStoreMsgNotFound), ("pub-streamkeep/pub/natsserver/server.ErrNoAckPolicy", Rows.laid_pub_streamkeep_pub_natsserver_server_ErrNoAckPolicy), ("pub-streamkeep/pub/natsserver/server.ErrStoreOldUpdate", Rows.laid_pub_streamkeep_pub_natsserver_server_ErrStoreOldUpdate)] [.sentinel, .sentinel, .sentinel, .sentinel] true :=
  Program.laidByTextLater_by_one 85 8 2 (by kernel_rfl) (by kernel_rfl) (by kernel_rfl) (by kernel_rfl) (by kernel_rfl) (by kernel_rfl) (fun _ _ => by kernel_rfl)
theorem noOwnUnsafe : Tryd.pinned.checked.prog.headLifts.contains "ownunsafe" = false := by kernel_rfl
theorem tie : Tryd.prog.laidByTextLater [("pub-streamkeep/pub/natsserver/server.ErrStoreClosed", Rows.laid_pub_streamkeep_pub_natsserver_server_ErrStoreClosed), ("pub-streamkeep/pub/natsserver/server.ErrStoreMsgNotFound", Rows.laid_pub_streamkeep_pub_natsserver_server_ErrStoreMsgNotFound), ("pub-streamkeep/pub/natsserver/server.ErrNoAckPolicy", Rows.laid_pub_streamkeep_pub_natsserver_server_ErrNoAckPolicy), ("pub-streamkeep/pub/natsserver/server.ErrStoreOldUpdate", Rows.laid_pub_streamkeep_pub_natsserver_server_ErrStoreOldUpdate)] [.sentinel, .sentinel, .sentinel, .sentinel] true :=
  Program.laidByTextLater.sub seatTie1 ["pub-streamkeep/pub/natsserver/server.ErrStoreClosed", "pub-streamkeep/pub/natsserver/server.ErrStoreMsgNotFound", "pub-streamkeep/pub/natsserver/server.ErrNoAckPolicy", "pub-streamkeep/pub/natsserver/server.ErrStoreOldUpdate"] (by kernel_rfl) (by kernel_rfl)
theorem fnConsumer_row_tie : Rows.fnConsumerRow.laidByTextAt .later Tryd.pinned [.sentinel, .sentinel, .sentinel, .sentinel] true :=
  OpenClaim.laidByTextAt_later rfl rfl tie noOwnUnsafe
theorem fnConsumerAll_row_tie : Rows.fnConsumerAllRow.laidByTextAt .later Tryd.pinned [.sentinel, .sentinel, .sentinel, .sentinel] true :=
  OpenClaim.laidByTextAt_later rfl rfl tie noOwnUnsafe
theorem fnConsumerNone_row_tie : Rows.fnConsumerNoneRow.laidByTextAt .later Tryd.pinned [.sentinel, .sentinel, .sentinel, .sentinel] true :=
  OpenClaim.laidByTextAt_later rfl rfl tie noOwnUnsafe
theorem fnConsumerReset_row_tie : Rows.fnConsumerResetRow.laidByTextAt .later Tryd.pinned [.sentinel, .sentinel, .sentinel, .sentinel] true :=
  OpenClaim.laidByTextAt_later rfl rfl tie noOwnUnsafe
theorem fnConsumerUpto_row_tie : Rows.fnConsumerUptoRow.laidByTextAt .later Tryd.pinned [.sentinel, .sentinel, .sentinel, .sentinel] true :=
  OpenClaim.laidByTextAt_later rfl rfl tie noOwnUnsafe
theorem fnConsumerAllUpto_row_tie : Rows.fnConsumerAllUptoRow.laidByTextAt .later Tryd.pinned [.sentinel, .sentinel, .sentinel, .sentinel] true :=
  OpenClaim.laidByTextAt_later rfl rfl tie noOwnUnsafe
theorem fnConsumerNoneUpto_row_tie : Rows.fnConsumerNoneUptoRow.laidByTextAt .later Tryd.pinned [.sentinel, .sentinel, .sentinel, .sentinel] true :=
  OpenClaim.laidByTextAt_later rfl rfl tie noOwnUnsafe
theorem fnConsumerResetUpto_row_tie : Rows.fnConsumerResetUptoRow.laidByTextAt .later Tryd.pinned [.sentinel, .sentinel, .sentinel, .sentinel] true :=
  OpenClaim.laidByTextAt_later rfl rfl tie noOwnUnsafe
end Go.Proofs.YtpbhblppehkifaaDoor
