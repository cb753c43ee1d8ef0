/-
  DERIVED. GIVEN WITH THE SEED: THE PROGRAM's TIES (one call each: nine closed facts by the kernel) AND EACH ROW's TIE, after the 31st guide's Derived/Test/Toyas{Tie, Card}.lean. No idea stands in it: it is a product of the set-up. Laid BY PROGRAM, IN A SANDBOX (cutbox-door.mjs). By AI agents, Wed Nov 11 2026. No macro, syntax, notation, axiom, sorry.
-/
import Derived.Test.YtkglmacaecmhdaaGreatDoorRows
import Derived.LaidByTextLater
import Derived.SevenTiedAt
import Derived.LaidSub
import Derived.LaidOnce
namespace Go.Proofs.YtkglmacaecmhdaaGreatDoor
open Go
set_option maxRecDepth 100000
theorem seatTie1 : Tryz.prog.laidByTextLater [("unicode/utf8.acceptRanges", Rows.laid_unicode_utf8_acceptRanges), ("mochimqtt/pub/mochipackets.ErrUnspecifiedError", Rows.laid_mochimqtt_pub_mochipackets_ErrUnspecifiedError), ("mochimqtt/pub/mochipackets.ErrMalformedProtocolName", Rows.laid_mochimqtt_pub_mochipackets_ErrMalformedProtocolName), ("mochimqtt/pub/mochipackets.ErrMalformedProtocolVersion", Rows.laid_mochimqtt_pub_mochipackets_ErrMalformedProtocolVersion), ("mochimqtt/pub/mochipackets.ErrMalformedFlags", Rows.laid_mochimqtt_pub_mochipackets_ErrMalformedFlags), ("mochimqtt/pub/mochipackets.ErrMalformedKeepalive", Rows.laid_mochimqtt_pub_mochipackets_ErrMalformedKeepalive), ("mochimqtt/pub/mochipackets.ErrMalformedPacketID", Rows.laid_mochimqtt_pub_mochipackets_ErrMalformedPacketID), ("mochimqtt/pub/mochipackets.ErrMalformedTopic", Rows.laid_mochimqtt_pub_mochipackets_ErrMalformedTopic), ("mochimqtt/pub/mochipackets.ErrMalformedWillTopic", Rows.laid_mochimqtt_pub_mochipackets_ErrMalformedWillTopic), ("mochimqtt/pub/mochipackets.ErrMalformedWillPayload", Rows.laid_mochimqtt_pub_mochipackets_ErrMalformedWillPayload), ("mochimqtt/pub/mochipackets.ErrMalformedUsername", Rows.laid_mochimqtt_pub_mochipackets_ErrMalformedUsername), ("mochimqtt/pub/mochipackets.ErrMalformedPassword", Rows.laid_mochimqtt_pub_mochipackets_ErrMalformedPassword), ("mochimqtt/pub/mochipackets.ErrMalformedQos", Rows.laid_mochimqtt_pub_mochipackets_ErrMalformedQos), ("mochimqtt/pub/mochipackets.ErrMalformedOffsetUintOutOfRange", Rows.laid_mochimqtt_pub_mochipackets_ErrMalformedOffsetUintOutOfRange), ("mochimqtt/pub/mochipackets.ErrMalformedOffsetBytesOutOfRange", Rows.laid_mochimqtt_pub_mochipackets_ErrMalformedOffsetBytesOutOfRange), ("mochimqtt/pub/mochipackets.ErrMalformedOffsetByteOutOfRange", Rows.laid_mochimqtt_pub_mochipackets_ErrMalformedOffsetByteOutOfRange), ("mochimqtt/pub/mochipackets.ErrMalformedOffsetBoolOutOfRange", Rows.laid_mochimqtt_pub_mochipackets_ErrMalformedOffsetBoolOutOfRange), ("mochimqtt/pub/mochipackets.ErrMalformedInvalidUTF8", Rows.laid_mochimqtt_pub_mochipackets_ErrMalformedInvalidUTF8), ("mochimqtt/pub/mochipackets.ErrMalformedVariableByteInteger", Rows.laid_mochimqtt_pub_mochipackets_ErrMalformedVariableByteInteger), ("mochimqtt/pub/mochipackets.ErrMalformedProperties", Rows.laid_mochimqtt_pub_mochipackets_ErrMalformedProperties), ("mochimqtt/pub/mochipackets.ErrMalformedWillProperties", Rows.laid_mochimqtt_pub_mochipackets_ErrMalformedWillProperties), ("mochimqtt/pub/mochipackets.ErrMalformedSessionPresent", Rows.laid_mochimqtt_pub_mochipackets_ErrMalformedSessionPresent), ("mochimqtt/pub/mochipackets.ErrMalformedReasonCode", Rows.laid_mochimqtt_pub_mochipackets_ErrMalformedReasonCode), ("mochimqtt/pub/mochipackets.ErrProtocolViolationFlagNoUsername", Rows.laid_mochimqtt_pub_mochipackets_ErrProtocolViolationFlagNoUsername), ("mochimqtt/pub/mochipackets.ErrProtocolViolationNoPacketID", Rows.laid_mochimqtt_pub_mochipackets_ErrProtocolViolationNoPacketID), ("mochimqtt/pub/mochipackets.ErrProtocolViolationQosOutOfRange", Rows.laid_mochimqtt_pub_mochipackets_ErrProtocolViolationQosOutOfRange), ("mochimqtt/pub/mochipackets.ErrProtocolViolationDupNoQos", Rows.laid_mochimqtt_pub_mochipackets_ErrProtocolViolationDupNoQos), ("mochimqtt/pub/mochipackets.ErrProtocolViolationUnsupportedProperty", Rows.laid_mochimqtt_pub_mochipackets_ErrProtocolViolationUnsupportedProperty), ("mochimqtt/pub/mochipackets.ErrClientIdentifierNotValid", Rows.laid_mochimqtt_pub_mochipackets_ErrClientIdentifierNotValid)] [.data, .data, .data, .data, .data, .data, .data, .data, .data, .data, .data, .data, .data, .data, .data, .data, .data, .data, .data, .data, .data, .data, .data, .data, .data, .data, .data, .data, .data] true :=
  Program.laidByTextLater_by_one 159 8 33 (by kernel_rfl) (by kernel_rfl) (by kernel_rfl) (by kernel_rfl) (by kernel_rfl) (by kernel_rfl) (fun _ _ => by kernel_rfl)
theorem pin_laid_unicode_utf8_first : Tryz.pinned.checked.prog.pinnedFits "unicode/utf8.first" = true := by kernel_rfl
theorem noOwnUnsafe : Tryz.pinned.checked.prog.headLifts.contains "ownunsafe" = false := by kernel_rfl
theorem fits1 : Tryz.pinned.checked.prog.listedFits [("unicode/utf8.acceptRanges", Rows.laid_unicode_utf8_acceptRanges), ("mochimqtt/pub/mochipackets.ErrUnspecifiedError", Rows.laid_mochimqtt_pub_mochipackets_ErrUnspecifiedError), ("mochimqtt/pub/mochipackets.ErrMalformedProtocolName", Rows.laid_mochimqtt_pub_mochipackets_ErrMalformedProtocolName), ("mochimqtt/pub/mochipackets.ErrMalformedProtocolVersion", Rows.laid_mochimqtt_pub_mochipackets_ErrMalformedProtocolVersion), ("mochimqtt/pub/mochipackets.ErrMalformedFlags", Rows.laid_mochimqtt_pub_mochipackets_ErrMalformedFlags), ("mochimqtt/pub/mochipackets.ErrMalformedKeepalive", Rows.laid_mochimqtt_pub_mochipackets_ErrMalformedKeepalive), ("mochimqtt/pub/mochipackets.ErrMalformedPacketID", Rows.laid_mochimqtt_pub_mochipackets_ErrMalformedPacketID), ("mochimqtt/pub/mochipackets.ErrMalformedTopic", Rows.laid_mochimqtt_pub_mochipackets_ErrMalformedTopic), ("mochimqtt/pub/mochipackets.ErrMalformedWillTopic", Rows.laid_mochimqtt_pub_mochipackets_ErrMalformedWillTopic), ("mochimqtt/pub/mochipackets.ErrMalformedWillPayload", Rows.laid_mochimqtt_pub_mochipackets_ErrMalformedWillPayload), ("mochimqtt/pub/mochipackets.ErrMalformedUsername", Rows.laid_mochimqtt_pub_mochipackets_ErrMalformedUsername), ("mochimqtt/pub/mochipackets.ErrMalformedPassword", Rows.laid_mochimqtt_pub_mochipackets_ErrMalformedPassword), ("mochimqtt/pub/mochipackets.ErrMalformedQos", Rows.laid_mochimqtt_pub_mochipackets_ErrMalformedQos), ("mochimqtt/pub/mochipackets.ErrMalformedOffsetUintOutOfRange", Rows.laid_mochimqtt_pub_mochipackets_ErrMalformedOffsetUintOutOfRange), ("mochimqtt/pub/mochipackets.ErrMalformedOffsetBytesOutOfRange", Rows.laid_mochimqtt_pub_mochipackets_ErrMalformedOffsetBytesOutOfRange), ("mochimqtt/pub/mochipackets.ErrMalformedOffsetByteOutOfRange", Rows.laid_mochimqtt_pub_mochipackets_ErrMalformedOffsetByteOutOfRange), ("mochimqtt/pub/mochipackets.ErrMalformedOffsetBoolOutOfRange", Rows.laid_mochimqtt_pub_mochipackets_ErrMalformedOffsetBoolOutOfRange), ("mochimqtt/pub/mochipackets.ErrMalformedInvalidUTF8", Rows.laid_mochimqtt_pub_mochipackets_ErrMalformedInvalidUTF8), ("mochimqtt/pub/mochipackets.ErrMalformedVariableByteInteger", Rows.laid_mochimqtt_pub_mochipackets_ErrMalformedVariableByteInteger), ("mochimqtt/pub/mochipackets.ErrMalformedProperties", Rows.laid_mochimqtt_pub_mochipackets_ErrMalformedProperties), ("mochimqtt/pub/mochipackets.ErrMalformedWillProperties", Rows.laid_mochimqtt_pub_mochipackets_ErrMalformedWillProperties), ("mochimqtt/pub/mochipackets.ErrMalformedSessionPresent", Rows.laid_mochimqtt_pub_mochipackets_ErrMalformedSessionPresent), ("mochimqtt/pub/mochipackets.ErrMalformedReasonCode", Rows.laid_mochimqtt_pub_mochipackets_ErrMalformedReasonCode), ("mochimqtt/pub/mochipackets.ErrProtocolViolationFlagNoUsername", Rows.laid_mochimqtt_pub_mochipackets_ErrProtocolViolationFlagNoUsername), ("mochimqtt/pub/mochipackets.ErrProtocolViolationNoPacketID", Rows.laid_mochimqtt_pub_mochipackets_ErrProtocolViolationNoPacketID), ("mochimqtt/pub/mochipackets.ErrProtocolViolationQosOutOfRange", Rows.laid_mochimqtt_pub_mochipackets_ErrProtocolViolationQosOutOfRange), ("mochimqtt/pub/mochipackets.ErrProtocolViolationDupNoQos", Rows.laid_mochimqtt_pub_mochipackets_ErrProtocolViolationDupNoQos), ("mochimqtt/pub/mochipackets.ErrProtocolViolationUnsupportedProperty", Rows.laid_mochimqtt_pub_mochipackets_ErrProtocolViolationUnsupportedProperty), ("mochimqtt/pub/mochipackets.ErrClientIdentifierNotValid", Rows.laid_mochimqtt_pub_mochipackets_ErrClientIdentifierNotValid), ("unicode/utf8.first", Rows.laid_unicode_utf8_first)] = true := by
  unfold Program.listedFits
  rw [noOwnUnsafe]
  kernel_rfl
theorem tie : Tryz.prog.laidByTextLater [("unicode/utf8.acceptRanges", Rows.laid_unicode_utf8_acceptRanges), ("mochimqtt/pub/mochipackets.ErrUnspecifiedError", Rows.laid_mochimqtt_pub_mochipackets_ErrUnspecifiedError), ("mochimqtt/pub/mochipackets.ErrMalformedProtocolName", Rows.laid_mochimqtt_pub_mochipackets_ErrMalformedProtocolName), ("mochimqtt/pub/mochipackets.ErrMalformedProtocolVersion", Rows.laid_mochimqtt_pub_mochipackets_ErrMalformedProtocolVersion), ("mochimqtt/pub/mochipackets.ErrMalformedFlags", Rows.laid_mochimqtt_pub_mochipackets_ErrMalformedFlags), ("mochimqtt/pub/mochipackets.ErrMalformedKeepalive", Rows.laid_mochimqtt_pub_mochipackets_ErrMalformedKeepalive), ("mochimqtt/pub/mochipackets.ErrMalformedPacketID", Rows.laid_mochimqtt_pub_mochipackets_ErrMalformedPacketID), ("mochimqtt/pub/mochipackets.ErrMalformedTopic", Rows.laid_mochimqtt_pub_mochipackets_ErrMalformedTopic), ("mochimqtt/pub/mochipackets.ErrMalformedWillTopic", Rows.laid_mochimqtt_pub_mochipackets_ErrMalformedWillTopic), ("mochimqtt/pub/mochipackets.ErrMalformedWillPayload", Rows.laid_mochimqtt_pub_mochipackets_ErrMalformedWillPayload), ("mochimqtt/pub/mochipackets.ErrMalformedUsername", Rows.laid_mochimqtt_pub_mochipackets_ErrMalformedUsername), ("mochimqtt/pub/mochipackets.ErrMalformedPassword", Rows.laid_mochimqtt_pub_mochipackets_ErrMalformedPassword), ("mochimqtt/pub/mochipackets.ErrMalformedQos", Rows.laid_mochimqtt_pub_mochipackets_ErrMalformedQos), ("mochimqtt/pub/mochipackets.ErrMalformedOffsetUintOutOfRange", Rows.laid_mochimqtt_pub_mochipackets_ErrMalformedOffsetUintOutOfRange), ("mochimqtt/pub/mochipackets.ErrMalformedOffsetBytesOutOfRange", Rows.laid_mochimqtt_pub_mochipackets_ErrMalformedOffsetBytesOutOfRange), ("mochimqtt/pub/mochipackets.ErrMalformedOffsetByteOutOfRange", Rows.laid_mochimqtt_pub_mochipackets_ErrMalformedOffsetByteOutOfRange), ("mochimqtt/pub/mochipackets.ErrMalformedOffsetBoolOutOfRange", Rows.laid_mochimqtt_pub_mochipackets_ErrMalformedOffsetBoolOutOfRange), ("mochimqtt/pub/mochipackets.ErrMalformedInvalidUTF8", Rows.laid_mochimqtt_pub_mochipackets_ErrMalformedInvalidUTF8), ("mochimqtt/pub/mochipackets.ErrMalformedVariableByteInteger", Rows.laid_mochimqtt_pub_mochipackets_ErrMalformedVariableByteInteger), ("mochimqtt/pub/mochipackets.ErrMalformedProperties", Rows.laid_mochimqtt_pub_mochipackets_ErrMalformedProperties), ("mochimqtt/pub/mochipackets.ErrMalformedWillProperties", Rows.laid_mochimqtt_pub_mochipackets_ErrMalformedWillProperties), ("mochimqtt/pub/mochipackets.ErrMalformedSessionPresent", Rows.laid_mochimqtt_pub_mochipackets_ErrMalformedSessionPresent), ("mochimqtt/pub/mochipackets.ErrMalformedReasonCode", Rows.laid_mochimqtt_pub_mochipackets_ErrMalformedReasonCode), ("mochimqtt/pub/mochipackets.ErrProtocolViolationFlagNoUsername", Rows.laid_mochimqtt_pub_mochipackets_ErrProtocolViolationFlagNoUsername), ("mochimqtt/pub/mochipackets.ErrProtocolViolationNoPacketID", Rows.laid_mochimqtt_pub_mochipackets_ErrProtocolViolationNoPacketID), ("mochimqtt/pub/mochipackets.ErrProtocolViolationQosOutOfRange", Rows.laid_mochimqtt_pub_mochipackets_ErrProtocolViolationQosOutOfRange), ("mochimqtt/pub/mochipackets.ErrProtocolViolationDupNoQos", Rows.laid_mochimqtt_pub_mochipackets_ErrProtocolViolationDupNoQos), ("mochimqtt/pub/mochipackets.ErrProtocolViolationUnsupportedProperty", Rows.laid_mochimqtt_pub_mochipackets_ErrProtocolViolationUnsupportedProperty), ("mochimqtt/pub/mochipackets.ErrClientIdentifierNotValid", Rows.laid_mochimqtt_pub_mochipackets_ErrClientIdentifierNotValid)] [.data, .data, .data, .data, .data, .data, .data, .data, .data, .data, .data, .data, .data, .data, .data, .data, .data, .data, .data, .data, .data, .data, .data, .data, .data, .data, .data, .data, .data] true :=
  Program.laidByTextLater.sub seatTie1 ["unicode/utf8.acceptRanges", "mochimqtt/pub/mochipackets.ErrUnspecifiedError", "mochimqtt/pub/mochipackets.ErrMalformedProtocolName", "mochimqtt/pub/mochipackets.ErrMalformedProtocolVersion", "mochimqtt/pub/mochipackets.ErrMalformedFlags", "mochimqtt/pub/mochipackets.ErrMalformedKeepalive", "mochimqtt/pub/mochipackets.ErrMalformedPacketID", "mochimqtt/pub/mochipackets.ErrMalformedTopic", "mochimqtt/pub/mochipackets.ErrMalformedWillTopic", "mochimqtt/pub/mochipackets.ErrMalformedWillPayload", "mochimqtt/pub/mochipackets.ErrMalformedUsername", "mochimqtt/pub/mochipackets.ErrMalformedPassword", "mochimqtt/pub/mochipackets.ErrMalformedQos", "mochimqtt/pub/mochipackets.ErrMalformedOffsetUintOutOfRange", "mochimqtt/pub/mochipackets.ErrMalformedOffsetBytesOutOfRange", "mochimqtt/pub/mochipackets.ErrMalformedOffsetByteOutOfRange", "mochimqtt/pub/mochipackets.ErrMalformedOffsetBoolOutOfRange", "mochimqtt/pub/mochipackets.ErrMalformedInvalidUTF8", "mochimqtt/pub/mochipackets.ErrMalformedVariableByteInteger", "mochimqtt/pub/mochipackets.ErrMalformedProperties", "mochimqtt/pub/mochipackets.ErrMalformedWillProperties", "mochimqtt/pub/mochipackets.ErrMalformedSessionPresent", "mochimqtt/pub/mochipackets.ErrMalformedReasonCode", "mochimqtt/pub/mochipackets.ErrProtocolViolationFlagNoUsername", "mochimqtt/pub/mochipackets.ErrProtocolViolationNoPacketID", "mochimqtt/pub/mochipackets.ErrProtocolViolationQosOutOfRange", "mochimqtt/pub/mochipackets.ErrProtocolViolationDupNoQos", "mochimqtt/pub/mochipackets.ErrProtocolViolationUnsupportedProperty", "mochimqtt/pub/mochipackets.ErrClientIdentifierNotValid"] (by kernel_rfl) (by kernel_rfl)
theorem fnRoad_row_tie : Rows.fnRoadRow.laidByTextAt .later Tryz.pinned [.data, .data, .data, .data, .data, .data, .data, .data, .data, .data, .data, .data, .data, .data, .data, .data, .data, .data, .data, .data, .data, .data, .data, .data, .data, .data, .data, .data, .data, .pinned] true :=
  OpenClaim.laidByTextAt_pinned rfl rfl tie rfl rfl rfl rfl (fun y hy _e => by
    simp only [Rows.fnRoadRow, List.zip_cons_cons, List.zip_nil_right, List.mem_cons, List.mem_nil_iff, or_false] at hy
    rcases hy with rfl | rfl | rfl | rfl | rfl | rfl | rfl | rfl | rfl | rfl | rfl | rfl | rfl | rfl | rfl | rfl | rfl | rfl | rfl | rfl | rfl | rfl | rfl | rfl | rfl | rfl | rfl | rfl | rfl | rfl
    · cases _e
    · cases _e
    · cases _e
    · cases _e
    · cases _e
    · cases _e
    · cases _e
    · cases _e
    · cases _e
    · cases _e
    · cases _e
    · cases _e
    · cases _e
    · cases _e
    · cases _e
    · cases _e
    · cases _e
    · cases _e
    · cases _e
    · cases _e
    · cases _e
    · cases _e
    · cases _e
    · cases _e
    · cases _e
    · cases _e
    · cases _e
    · cases _e
    · cases _e
    · exact ⟨pin_laid_unicode_utf8_first, by kernel_rfl⟩) fits1
theorem fnRoadUpto_row_tie : Rows.fnRoadUptoRow.laidByTextAt .later Tryz.pinned [.data, .data, .data, .data, .data, .data, .data, .data, .data, .data, .data, .data, .data, .data, .data, .data, .data, .data, .data, .data, .data, .data, .data, .data, .data, .data, .data, .data, .data, .pinned] true :=
  OpenClaim.laidByTextAt_pinned rfl rfl tie rfl rfl rfl rfl (fun y hy _e => by
    simp only [Rows.fnRoadUptoRow, List.zip_cons_cons, List.zip_nil_right, List.mem_cons, List.mem_nil_iff, or_false] at hy
    rcases hy with rfl | rfl | rfl | rfl | rfl | rfl | rfl | rfl | rfl | rfl | rfl | rfl | rfl | rfl | rfl | rfl | rfl | rfl | rfl | rfl | rfl | rfl | rfl | rfl | rfl | rfl | rfl | rfl | rfl | rfl
    · cases _e
    · cases _e
    · cases _e
    · cases _e
    · cases _e
    · cases _e
    · cases _e
    · cases _e
    · cases _e
    · cases _e
    · cases _e
    · cases _e
    · cases _e
    · cases _e
    · cases _e
    · cases _e
    · cases _e
    · cases _e
    · cases _e
    · cases _e
    · cases _e
    · cases _e
    · cases _e
    · cases _e
    · cases _e
    · cases _e
    · cases _e
    · cases _e
    · cases _e
    · exact ⟨pin_laid_unicode_utf8_first, by kernel_rfl⟩) fits1
end Go.Proofs.YtkglmacaecmhdaaGreatDoor
