/-
  DERIVED. GIVEN WITH THE SEED: THE PROGRAM's TIES (one call each: nine closed facts by the kernel) AND EACH ROW's TIE, after the 31st guide's Derived/Test/Toyas{Tie, Card}.lean. No idea stands in it: it is a product of the set-up. Laid BY PROGRAM, IN A SANDBOX (cutbox-door.mjs). By AI agents, Wed Nov 11 2026. No macro, syntax, notation, axiom, sorry.
-/
import Derived.Test.YtpalhclllhbmkaaDoorRows
import Derived.LaidByTextLater
import Derived.SevenTiedAt
import Derived.LaidSub
import Derived.LaidOnce
namespace Go.Proofs.YtpalhclllhbmkaaDoor
open Go
set_option maxRecDepth 100000
theorem seatTie1 : Tryd.prog.laidByTextLater [("unicode/utf8.acceptRanges", Rows.laid_unicode_utf8_acceptRanges), ("bytes.ErrTooLarge", Rows.laid_bytes_ErrTooLarge), ("pub-streamkeep/pub/natsserver/server.errMQTTTopicFilterCannotBeEmpty", Rows.laid_pub_streamkeep_pub_natsserver_server_errMQTTTopicFilterCannotBeEmpty), ("pub-streamkeep/pub/natsserver/server.errMQTTMalformedVarInt", Rows.laid_pub_streamkeep_pub_natsserver_server_errMQTTMalformedVarInt), ("pub-streamkeep/pub/natsserver/server.errMQTTTopicIsEmpty", Rows.laid_pub_streamkeep_pub_natsserver_server_errMQTTTopicIsEmpty), ("pub-streamkeep/pub/natsserver/server.errMQTTPacketIdentifierIsZero", Rows.laid_pub_streamkeep_pub_natsserver_server_errMQTTPacketIdentifierIsZero), ("pub-streamkeep/pub/natsserver/server.errMQTTUnsupportedCharacters", Rows.laid_pub_streamkeep_pub_natsserver_server_errMQTTUnsupportedCharacters), ("pub-streamkeep/pub/natsserver/server.errMQTTInvalidPublishLength", Rows.laid_pub_streamkeep_pub_natsserver_server_errMQTTInvalidPublishLength)] [.data, .sentinel, .sentinel, .sentinel, .sentinel, .sentinel, .sentinel, .sentinel] true :=
  Program.laidByTextLater_by_one 152 8 33 (by kernel_rfl) (by kernel_rfl) (by kernel_rfl) (by kernel_rfl) (by kernel_rfl) (by kernel_rfl) (fun _ _ => by kernel_rfl)
theorem pin_laid_unicode_utf8_first : Tryd.pinned.checked.prog.pinnedFits "unicode/utf8.first" = true := by kernel_rfl
theorem noOwnUnsafe : Tryd.pinned.checked.prog.headLifts.contains "ownunsafe" = false := by kernel_rfl
theorem tie : Tryd.prog.laidByTextLater [("bytes.ErrTooLarge", Rows.laid_bytes_ErrTooLarge), ("pub-streamkeep/pub/natsserver/server.errMQTTMalformedVarInt", Rows.laid_pub_streamkeep_pub_natsserver_server_errMQTTMalformedVarInt)] [.sentinel, .sentinel] true :=
  Program.laidByTextLater.sub seatTie1 ["bytes.ErrTooLarge", "pub-streamkeep/pub/natsserver/server.errMQTTMalformedVarInt"] (by kernel_rfl) (by kernel_rfl)
theorem fnRemaining_row_tie : Rows.fnRemainingRow.laidByTextAt .later Tryd.pinned [.sentinel, .sentinel] true :=
  OpenClaim.laidByTextAt_later rfl rfl tie noOwnUnsafe
theorem fits2 : Tryd.pinned.checked.prog.listedFits [("unicode/utf8.acceptRanges", Rows.laid_unicode_utf8_acceptRanges), ("pub-streamkeep/pub/natsserver/server.errMQTTTopicIsEmpty", Rows.laid_pub_streamkeep_pub_natsserver_server_errMQTTTopicIsEmpty), ("pub-streamkeep/pub/natsserver/server.errMQTTUnsupportedCharacters", Rows.laid_pub_streamkeep_pub_natsserver_server_errMQTTUnsupportedCharacters), ("pub-streamkeep/pub/natsserver/server.errMQTTInvalidPublishLength", Rows.laid_pub_streamkeep_pub_natsserver_server_errMQTTInvalidPublishLength), ("unicode/utf8.first", Rows.laid_unicode_utf8_first)] = true := by
  unfold Program.listedFits
  rw [noOwnUnsafe]
  kernel_rfl
theorem tie2 : Tryd.prog.laidByTextLater [("unicode/utf8.acceptRanges", Rows.laid_unicode_utf8_acceptRanges), ("pub-streamkeep/pub/natsserver/server.errMQTTTopicIsEmpty", Rows.laid_pub_streamkeep_pub_natsserver_server_errMQTTTopicIsEmpty), ("pub-streamkeep/pub/natsserver/server.errMQTTUnsupportedCharacters", Rows.laid_pub_streamkeep_pub_natsserver_server_errMQTTUnsupportedCharacters), ("pub-streamkeep/pub/natsserver/server.errMQTTInvalidPublishLength", Rows.laid_pub_streamkeep_pub_natsserver_server_errMQTTInvalidPublishLength)] [.data, .sentinel, .sentinel, .sentinel] true :=
  Program.laidByTextLater.sub seatTie1 ["unicode/utf8.acceptRanges", "pub-streamkeep/pub/natsserver/server.errMQTTTopicIsEmpty", "pub-streamkeep/pub/natsserver/server.errMQTTUnsupportedCharacters", "pub-streamkeep/pub/natsserver/server.errMQTTInvalidPublishLength"] (by kernel_rfl) (by kernel_rfl)
theorem fnPublishCut_row_tie : Rows.fnPublishCutRow.laidByTextAt .later Tryd.pinned [.data, .sentinel, .sentinel, .sentinel, .pinned] true :=
  OpenClaim.laidByTextAt_pinned rfl rfl tie2 rfl rfl rfl rfl (fun y hy _e => by
    simp only [Rows.fnPublishCutRow, List.zip_cons_cons, List.zip_nil_right, List.mem_cons, List.mem_nil_iff, or_false] at hy
    rcases hy with rfl | rfl | rfl | rfl | rfl
    · cases _e
    · cases _e
    · cases _e
    · cases _e
    · exact ⟨pin_laid_unicode_utf8_first, by kernel_rfl⟩) fits2
theorem fnReadPublish_row_tie : Rows.fnReadPublishRow.laidByTextAt .later Tryd.pinned [.data, .sentinel, .sentinel, .sentinel, .pinned] true :=
  OpenClaim.laidByTextAt_pinned rfl rfl tie2 rfl rfl rfl rfl (fun y hy _e => by
    simp only [Rows.fnReadPublishRow, List.zip_cons_cons, List.zip_nil_right, List.mem_cons, List.mem_nil_iff, or_false] at hy
    rcases hy with rfl | rfl | rfl | rfl | rfl
    · cases _e
    · cases _e
    · cases _e
    · cases _e
    · exact ⟨pin_laid_unicode_utf8_first, by kernel_rfl⟩) fits2
theorem fits3 : Tryd.pinned.checked.prog.listedFits [("unicode/utf8.acceptRanges", Rows.laid_unicode_utf8_acceptRanges), ("pub-streamkeep/pub/natsserver/server.errMQTTTopicFilterCannotBeEmpty", Rows.laid_pub_streamkeep_pub_natsserver_server_errMQTTTopicFilterCannotBeEmpty), ("pub-streamkeep/pub/natsserver/server.errMQTTTopicIsEmpty", Rows.laid_pub_streamkeep_pub_natsserver_server_errMQTTTopicIsEmpty), ("pub-streamkeep/pub/natsserver/server.errMQTTPacketIdentifierIsZero", Rows.laid_pub_streamkeep_pub_natsserver_server_errMQTTPacketIdentifierIsZero), ("pub-streamkeep/pub/natsserver/server.errMQTTUnsupportedCharacters", Rows.laid_pub_streamkeep_pub_natsserver_server_errMQTTUnsupportedCharacters), ("pub-streamkeep/pub/natsserver/server.errMQTTInvalidPublishLength", Rows.laid_pub_streamkeep_pub_natsserver_server_errMQTTInvalidPublishLength), ("unicode/utf8.first", Rows.laid_unicode_utf8_first)] = true := by
  unfold Program.listedFits
  rw [noOwnUnsafe]
  kernel_rfl
theorem tie3 : Tryd.prog.laidByTextLater [("unicode/utf8.acceptRanges", Rows.laid_unicode_utf8_acceptRanges), ("pub-streamkeep/pub/natsserver/server.errMQTTTopicFilterCannotBeEmpty", Rows.laid_pub_streamkeep_pub_natsserver_server_errMQTTTopicFilterCannotBeEmpty), ("pub-streamkeep/pub/natsserver/server.errMQTTTopicIsEmpty", Rows.laid_pub_streamkeep_pub_natsserver_server_errMQTTTopicIsEmpty), ("pub-streamkeep/pub/natsserver/server.errMQTTPacketIdentifierIsZero", Rows.laid_pub_streamkeep_pub_natsserver_server_errMQTTPacketIdentifierIsZero), ("pub-streamkeep/pub/natsserver/server.errMQTTUnsupportedCharacters", Rows.laid_pub_streamkeep_pub_natsserver_server_errMQTTUnsupportedCharacters), ("pub-streamkeep/pub/natsserver/server.errMQTTInvalidPublishLength", Rows.laid_pub_streamkeep_pub_natsserver_server_errMQTTInvalidPublishLength)] [.data, .sentinel, .sentinel, .sentinel, .sentinel, .sentinel] true :=
  Program.laidByTextLater.sub seatTie1 ["unicode/utf8.acceptRanges", "pub-streamkeep/pub/natsserver/server.errMQTTTopicFilterCannotBeEmpty", "pub-streamkeep/pub/natsserver/server.errMQTTTopicIsEmpty", "pub-streamkeep/pub/natsserver/server.errMQTTPacketIdentifierIsZero", "pub-streamkeep/pub/natsserver/server.errMQTTUnsupportedCharacters", "pub-streamkeep/pub/natsserver/server.errMQTTInvalidPublishLength"] (by kernel_rfl) (by kernel_rfl)
theorem fnReadSubscribe_row_tie : Rows.fnReadSubscribeRow.laidByTextAt .later Tryd.pinned [.data, .sentinel, .sentinel, .sentinel, .sentinel, .sentinel, .pinned] true :=
  OpenClaim.laidByTextAt_pinned rfl rfl tie3 rfl rfl rfl rfl (fun y hy _e => by
    simp only [Rows.fnReadSubscribeRow, List.zip_cons_cons, List.zip_nil_right, List.mem_cons, List.mem_nil_iff, or_false] at hy
    rcases hy with rfl | rfl | rfl | rfl | rfl | rfl | rfl
    · cases _e
    · cases _e
    · cases _e
    · cases _e
    · cases _e
    · cases _e
    · exact ⟨pin_laid_unicode_utf8_first, by kernel_rfl⟩) fits3
theorem fnSubscribeBack_row_tie : Rows.fnSubscribeBackRow.laidByTextAt .later Tryd.pinned [.data, .sentinel, .sentinel, .sentinel, .sentinel, .sentinel, .pinned] true :=
  OpenClaim.laidByTextAt_pinned rfl rfl tie3 rfl rfl rfl rfl (fun y hy _e => by
    simp only [Rows.fnSubscribeBackRow, List.zip_cons_cons, List.zip_nil_right, List.mem_cons, List.mem_nil_iff, or_false] at hy
    rcases hy with rfl | rfl | rfl | rfl | rfl | rfl | rfl
    · cases _e
    · cases _e
    · cases _e
    · cases _e
    · cases _e
    · cases _e
    · exact ⟨pin_laid_unicode_utf8_first, by kernel_rfl⟩) fits3
theorem fnRemainingUpto_row_tie : Rows.fnRemainingUptoRow.laidByTextAt .later Tryd.pinned [.sentinel, .sentinel] true :=
  OpenClaim.laidByTextAt_later rfl rfl tie noOwnUnsafe
theorem fnPublishCutUpto_row_tie : Rows.fnPublishCutUptoRow.laidByTextAt .later Tryd.pinned [.data, .sentinel, .sentinel, .sentinel, .pinned] true :=
  OpenClaim.laidByTextAt_pinned rfl rfl tie2 rfl rfl rfl rfl (fun y hy _e => by
    simp only [Rows.fnPublishCutUptoRow, List.zip_cons_cons, List.zip_nil_right, List.mem_cons, List.mem_nil_iff, or_false] at hy
    rcases hy with rfl | rfl | rfl | rfl | rfl
    · cases _e
    · cases _e
    · cases _e
    · cases _e
    · exact ⟨pin_laid_unicode_utf8_first, by kernel_rfl⟩) fits2
theorem fnReadPublishUpto_row_tie : Rows.fnReadPublishUptoRow.laidByTextAt .later Tryd.pinned [.data, .sentinel, .sentinel, .sentinel, .pinned] true :=
  OpenClaim.laidByTextAt_pinned rfl rfl tie2 rfl rfl rfl rfl (fun y hy _e => by
    simp only [Rows.fnReadPublishUptoRow, List.zip_cons_cons, List.zip_nil_right, List.mem_cons, List.mem_nil_iff, or_false] at hy
    rcases hy with rfl | rfl | rfl | rfl | rfl
    · cases _e
    · cases _e
    · cases _e
    · cases _e
    · exact ⟨pin_laid_unicode_utf8_first, by kernel_rfl⟩) fits2
theorem fnReadSubscribeUpto_row_tie : Rows.fnReadSubscribeUptoRow.laidByTextAt .later Tryd.pinned [.data, .sentinel, .sentinel, .sentinel, .sentinel, .sentinel, .pinned] true :=
  OpenClaim.laidByTextAt_pinned rfl rfl tie3 rfl rfl rfl rfl (fun y hy _e => by
    simp only [Rows.fnReadSubscribeUptoRow, List.zip_cons_cons, List.zip_nil_right, List.mem_cons, List.mem_nil_iff, or_false] at hy
    rcases hy with rfl | rfl | rfl | rfl | rfl | rfl | rfl
    · cases _e
    · cases _e
    · cases _e
    · cases _e
    · cases _e
    · cases _e
    · exact ⟨pin_laid_unicode_utf8_first, by kernel_rfl⟩) fits3
theorem fnSubscribeBackUpto_row_tie : Rows.fnSubscribeBackUptoRow.laidByTextAt .later Tryd.pinned [.data, .sentinel, .sentinel, .sentinel, .sentinel, .sentinel, .pinned] true :=
  OpenClaim.laidByTextAt_pinned rfl rfl tie3 rfl rfl rfl rfl (fun y hy _e => by
    simp only [Rows.fnSubscribeBackUptoRow, List.zip_cons_cons, List.zip_nil_right, List.mem_cons, List.mem_nil_iff, or_false] at hy
    rcases hy with rfl | rfl | rfl | rfl | rfl | rfl | rfl
    · cases _e
    · cases _e
    · cases _e
    · cases _e
    · cases _e
    · cases _e
    · exact ⟨pin_laid_unicode_utf8_first, by kernel_rfl⟩) fits3
end Go.Proofs.YtpalhclllhbmkaaDoor
