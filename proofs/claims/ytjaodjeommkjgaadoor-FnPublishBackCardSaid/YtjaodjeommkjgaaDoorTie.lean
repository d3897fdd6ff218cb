/-
  DERIVED. GIVEN WITH THE SEED: THE PROGRAM's TIES (one call each: nine closed facts by the kernel) AND EACH ROW's TIE, after the 31st guide's Derived/Test/Toyas{Tie, Card}.lean. No idea stands in it: it is a product of the set-up. Laid BY PROGRAM, IN A SANDBOX (cutbox-door.mjs). By AI agents, Wed Nov 11 2026. No macro, syntax, notation, axiom, sorry.
-/
import Derived.Test.YtjaodjeommkjgaaDoorRows
import Derived.LaidByTextLater
import Derived.SevenTiedAt
import Derived.LaidSub
import Derived.LaidOnce
namespace Go.Proofs.YtjaodjeommkjgaaDoor
open Go
set_option maxRecDepth 100000
theorem seatTie1 : Tryd.prog.laidByTextLater [("unicode/utf8.acceptRanges", Rows.laid_unicode_utf8_acceptRanges), ("pub-streamkeep/pub/natsserver/server.errMQTTMalformedVarInt", Rows.laid_pub_streamkeep_pub_natsserver_server_errMQTTMalformedVarInt), ("pub-streamkeep/pub/natsserver/server.errMQTTTopicIsEmpty", Rows.laid_pub_streamkeep_pub_natsserver_server_errMQTTTopicIsEmpty), ("pub-streamkeep/pub/natsserver/server.errMQTTUnsupportedCharacters", Rows.laid_pub_streamkeep_pub_natsserver_server_errMQTTUnsupportedCharacters), ("pub-streamkeep/pub/natsserver/server.errMQTTInvalidPublishLength", Rows.laid_pub_streamkeep_pub_natsserver_server_errMQTTInvalidPublishLength)] [.data, .sentinel, .sentinel, .sentinel, .sentinel] true :=
  Program.laidByTextLater_by_one 95 8 33 (by kernel_rfl) (by kernel_rfl) (by kernel_rfl) (by kernel_rfl) (by kernel_rfl) (by kernel_rfl) (fun _ _ => by kernel_rfl)
theorem pin_laid_unicode_utf8_first : Tryd.pinned.checked.prog.pinnedFits "unicode/utf8.first" = true := by kernel_rfl
theorem noOwnUnsafe : Tryd.pinned.checked.prog.headLifts.contains "ownunsafe" = false := by kernel_rfl
theorem tie : Tryd.prog.laidByTextLater [("pub-streamkeep/pub/natsserver/server.errMQTTMalformedVarInt", Rows.laid_pub_streamkeep_pub_natsserver_server_errMQTTMalformedVarInt)] [.sentinel] true :=
  Program.laidByTextLater.sub seatTie1 ["pub-streamkeep/pub/natsserver/server.errMQTTMalformedVarInt"] (by kernel_rfl) (by kernel_rfl)
theorem fnLengthCuts_row_tie : Rows.fnLengthCutsRow.laidByTextAt .later Tryd.pinned [.sentinel] true :=
  OpenClaim.laidByTextAt_later rfl rfl tie noOwnUnsafe
theorem fnReadLength_row_tie : Rows.fnReadLengthRow.laidByTextAt .later Tryd.pinned [.sentinel] true :=
  OpenClaim.laidByTextAt_later rfl rfl tie noOwnUnsafe
theorem fits2 : Tryd.pinned.checked.prog.listedFits [("unicode/utf8.acceptRanges", Rows.laid_unicode_utf8_acceptRanges), ("pub-streamkeep/pub/natsserver/server.errMQTTTopicIsEmpty", Rows.laid_pub_streamkeep_pub_natsserver_server_errMQTTTopicIsEmpty), ("pub-streamkeep/pub/natsserver/server.errMQTTUnsupportedCharacters", Rows.laid_pub_streamkeep_pub_natsserver_server_errMQTTUnsupportedCharacters), ("pub-streamkeep/pub/natsserver/server.errMQTTInvalidPublishLength", Rows.laid_pub_streamkeep_pub_natsserver_server_errMQTTInvalidPublishLength), ("unicode/utf8.first", Rows.laid_unicode_utf8_first)] = true := by
  unfold Program.listedFits
  rw [noOwnUnsafe]
  kernel_rfl
theorem tie2 : Tryd.prog.laidByTextLater [("unicode/utf8.acceptRanges", Rows.laid_unicode_utf8_acceptRanges), ("pub-streamkeep/pub/natsserver/server.errMQTTTopicIsEmpty", Rows.laid_pub_streamkeep_pub_natsserver_server_errMQTTTopicIsEmpty), ("pub-streamkeep/pub/natsserver/server.errMQTTUnsupportedCharacters", Rows.laid_pub_streamkeep_pub_natsserver_server_errMQTTUnsupportedCharacters), ("pub-streamkeep/pub/natsserver/server.errMQTTInvalidPublishLength", Rows.laid_pub_streamkeep_pub_natsserver_server_errMQTTInvalidPublishLength)] [.data, .sentinel, .sentinel, .sentinel] true :=
  Program.laidByTextLater.sub seatTie1 ["unicode/utf8.acceptRanges", "pub-streamkeep/pub/natsserver/server.errMQTTTopicIsEmpty", "pub-streamkeep/pub/natsserver/server.errMQTTUnsupportedCharacters", "pub-streamkeep/pub/natsserver/server.errMQTTInvalidPublishLength"] (by kernel_rfl) (by kernel_rfl)
theorem fnPublishBack_row_tie : Rows.fnPublishBackRow.laidByTextAt .later Tryd.pinned [.data, .sentinel, .sentinel, .sentinel, .pinned] true :=
  OpenClaim.laidByTextAt_pinned rfl rfl tie2 rfl rfl rfl rfl (fun y hy _e => by
    simp only [Rows.fnPublishBackRow, List.zip_cons_cons, List.zip_nil_right, List.mem_cons, List.mem_nil_iff, or_false] at hy
    rcases hy with rfl | rfl | rfl | rfl | rfl
    · cases _e
    · cases _e
    · cases _e
    · cases _e
    · exact ⟨pin_laid_unicode_utf8_first, by kernel_rfl⟩) fits2
theorem fnTopicApart_row_tie : Rows.fnTopicApartRow.laidByTextAt .later Tryd.pinned [.data, .sentinel, .sentinel, .sentinel, .pinned] true :=
  OpenClaim.laidByTextAt_pinned rfl rfl tie2 rfl rfl rfl rfl (fun y hy _e => by
    simp only [Rows.fnTopicApartRow, List.zip_cons_cons, List.zip_nil_right, List.mem_cons, List.mem_nil_iff, or_false] at hy
    rcases hy with rfl | rfl | rfl | rfl | rfl
    · cases _e
    · cases _e
    · cases _e
    · cases _e
    · exact ⟨pin_laid_unicode_utf8_first, by kernel_rfl⟩) fits2
theorem fnTopic_row_tie : Rows.fnTopicRow.laidByTextAt .later Tryd.pinned [.data, .sentinel, .sentinel, .sentinel, .pinned] true :=
  OpenClaim.laidByTextAt_pinned rfl rfl tie2 rfl rfl rfl rfl (fun y hy _e => by
    simp only [Rows.fnTopicRow, List.zip_cons_cons, List.zip_nil_right, List.mem_cons, List.mem_nil_iff, or_false] at hy
    rcases hy with rfl | rfl | rfl | rfl | rfl
    · cases _e
    · cases _e
    · cases _e
    · cases _e
    · exact ⟨pin_laid_unicode_utf8_first, by kernel_rfl⟩) fits2
theorem fnLengthCutsUpto_row_tie : Rows.fnLengthCutsUptoRow.laidByTextAt .later Tryd.pinned [.sentinel] true :=
  OpenClaim.laidByTextAt_later rfl rfl tie noOwnUnsafe
theorem fnReadLengthUpto_row_tie : Rows.fnReadLengthUptoRow.laidByTextAt .later Tryd.pinned [.sentinel] true :=
  OpenClaim.laidByTextAt_later rfl rfl tie noOwnUnsafe
theorem fnPublishBackUpto_row_tie : Rows.fnPublishBackUptoRow.laidByTextAt .later Tryd.pinned [.data, .sentinel, .sentinel, .sentinel, .pinned] true :=
  OpenClaim.laidByTextAt_pinned rfl rfl tie2 rfl rfl rfl rfl (fun y hy _e => by
    simp only [Rows.fnPublishBackUptoRow, List.zip_cons_cons, List.zip_nil_right, List.mem_cons, List.mem_nil_iff, or_false] at hy
    rcases hy with rfl | rfl | rfl | rfl | rfl
    · cases _e
    · cases _e
    · cases _e
    · cases _e
    · exact ⟨pin_laid_unicode_utf8_first, by kernel_rfl⟩) fits2
theorem fnTopicApartUpto_row_tie : Rows.fnTopicApartUptoRow.laidByTextAt .later Tryd.pinned [.data, .sentinel, .sentinel, .sentinel, .pinned] true :=
  OpenClaim.laidByTextAt_pinned rfl rfl tie2 rfl rfl rfl rfl (fun y hy _e => by
    simp only [Rows.fnTopicApartUptoRow, List.zip_cons_cons, List.zip_nil_right, List.mem_cons, List.mem_nil_iff, or_false] at hy
    rcases hy with rfl | rfl | rfl | rfl | rfl
    · cases _e
    · cases _e
    · cases _e
    · cases _e
    · exact ⟨pin_laid_unicode_utf8_first, by kernel_rfl⟩) fits2
theorem fnTopicUpto_row_tie : Rows.fnTopicUptoRow.laidByTextAt .later Tryd.pinned [.data, .sentinel, .sentinel, .sentinel, .pinned] true :=
  OpenClaim.laidByTextAt_pinned rfl rfl tie2 rfl rfl rfl rfl (fun y hy _e => by
    simp only [Rows.fnTopicUptoRow, List.zip_cons_cons, List.zip_nil_right, List.mem_cons, List.mem_nil_iff, or_false] at hy
    rcases hy with rfl | rfl | rfl | rfl | rfl
    · cases _e
    · cases _e
    · cases _e
    · cases _e
    · exact ⟨pin_laid_unicode_utf8_first, by kernel_rfl⟩) fits2
end Go.Proofs.YtjaodjeommkjgaaDoor
