/-
  NARROWER THAN 'FOR EVERY INPUT', by the rows' own cells (each row's printed sentence says how): FnRemaining: laid · FnPublishCut: laid · FnReadPublish: laid · FnReadSubscribe: laid · FnSubscribeBack: laid.
  DERIVED. THE GIVEN ROWS OF THIS SEAT. 5 by the template 'for every input the law returns true; each argument reads behind the call as it read before'; 0 by the template 'total and deterministic' (their statements: YtpalhclllhbmkaaDoorTotals.lean).
  GIVEN WITH THE SEED: the statements are not yours to turn. If you find one false, say at which input.
  Laid BY PROGRAM, IN A SANDBOX (cutbox-rows.mjs): the forced cells as the released guide's own fill.sh prints them over the translation 1c9c98708057130d… (all of the seat's roots in one cut). By AI agents, Wed Nov 11 2026. No macro, syntax, notation, axiom, sorry.
-/
import Derived.Test.YtpalhclllhbmkaaDoorChecked
import GoSem.PinnedTables
import GoSem.Claim
import GoSem.ClaimJoined
import GoSem.ClaimMapViews
import Derived.JoinedTies
import Derived.KernelRfl
namespace Go.Proofs.YtpalhclllhbmkaaDoor
/- THE CELL 'sum', in the pinned program and in every row, IS THE sha256 OF THE DUMP (.gsa) THAT YtpalhclllhbmkaaDoorProg.lean LOADS. Nothing in Lean hashes anything: it is a label: what it is worth is what the hold of that sum in a sandbox is worth. -/
noncomputable def Tryd.pinned : Pinned := { name := "ytpalhclllhbmkaadoor", sum := "1c9c98708057130d7d296c8b1778b027628ca85d37b028074cddefbb5ffa462d", checked := Tryd.checked }
namespace Rows
def none {H : Type} : Left H := { results := [], args := [] }

/- WHAT THE LISTED PACKAGE-LEVEL VARIABLES READ AS WHEN THE CALL BEGINS. Each datum BY PROGRAM (the guide's laid-datum.mjs) off the statement by which the dump's own 'gosem.cut.vars' lays the variable. In a bare row this is a premise. The card (YtpalhclllhbmkaaDoorCards.lean) ties it to the program's text. -/
def laid_bytes_ErrTooLarge {H : Type} : DataW H := .iface "*errors.errorString" (.ptr (.agg [.lit (.string [98, 121, 116, 101, 115, 46, 66, 117, 102, 102, 101, 114, 58, 32, 116, 111, 111, 32, 108, 97, 114, 103, 101])]))
def laid_pub_streamkeep_pub_natsserver_server_errMQTTMalformedVarInt {H : Type} : DataW H := .iface "*errors.errorString" (.ptr (.agg [.lit (.string [109, 97, 108, 102, 111, 114, 109, 101, 100, 32, 118, 97, 114, 105, 97, 98, 108, 101, 32, 105, 110, 116])]))
def laid_unicode_utf8_acceptRanges {H : Type} : DataW H := .agg [.agg [.lit (.int .u8 128), .lit (.int .u8 191)], .agg [.lit (.int .u8 160), .lit (.int .u8 191)], .agg [.lit (.int .u8 128), .lit (.int .u8 159)], .agg [.lit (.int .u8 144), .lit (.int .u8 191)], .agg [.lit (.int .u8 128), .lit (.int .u8 143)], .agg [.lit (.int .u8 0), .lit (.int .u8 0)], .agg [.lit (.int .u8 0), .lit (.int .u8 0)], .agg [.lit (.int .u8 0), .lit (.int .u8 0)], .agg [.lit (.int .u8 0), .lit (.int .u8 0)], .agg [.lit (.int .u8 0), .lit (.int .u8 0)], .agg [.lit (.int .u8 0), .lit (.int .u8 0)], .agg [.lit (.int .u8 0), .lit (.int .u8 0)], .agg [.lit (.int .u8 0), .lit (.int .u8 0)], .agg [.lit (.int .u8 0), .lit (.int .u8 0)], .agg [.lit (.int .u8 0), .lit (.int .u8 0)], .agg [.lit (.int .u8 0), .lit (.int .u8 0)]]
def laid_pub_streamkeep_pub_natsserver_server_errMQTTTopicIsEmpty {H : Type} : DataW H := .iface "*errors.errorString" (.ptr (.agg [.lit (.string [116, 111, 112, 105, 99, 32, 99, 97, 110, 110, 111, 116, 32, 98, 101, 32, 101, 109, 112, 116, 121])]))
def laid_pub_streamkeep_pub_natsserver_server_errMQTTUnsupportedCharacters {H : Type} : DataW H := .iface "*errors.errorString" (.ptr (.agg [.lit (.string [99, 104, 97, 114, 97, 99, 116, 101, 114, 32, 110, 111, 116, 32, 115, 117, 112, 112, 111, 114, 116, 101, 100, 32, 102, 111, 114, 32, 77, 81, 84, 84, 32, 116, 111, 112, 105, 99, 115])]))
def laid_pub_streamkeep_pub_natsserver_server_errMQTTInvalidPublishLength {H : Type} : DataW H := .iface "*errors.errorString" (.ptr (.agg [.lit (.string [105, 110, 118, 97, 108, 105, 100, 32, 112, 117, 98, 108, 105, 115, 104, 32, 109, 101, 115, 115, 97, 103, 101, 44, 32, 118, 97, 114, 105, 97, 98, 108, 101, 32, 104, 101, 97, 100, 101, 114, 32, 101, 120, 99, 101, 101, 100, 115, 32, 114, 101, 109, 97, 105, 110, 105, 110, 103, 32, 108, 101, 110, 103, 116, 104])]))
/-- One of Go's own tables, pinned by name: the form's constant. -/
def laid_unicode_utf8_first : DataW Unit := Go.Pinned.utf8First
def laid_pub_streamkeep_pub_natsserver_server_errMQTTTopicFilterCannotBeEmpty {H : Type} : DataW H := .iface "*errors.errorString" (.ptr (.agg [.lit (.string [116, 111, 112, 105, 99, 32, 102, 105, 108, 116, 101, 114, 32, 99, 97, 110, 110, 111, 116, 32, 98, 101, 32, 101, 109, 112, 116, 121])]))
def laid_pub_streamkeep_pub_natsserver_server_errMQTTPacketIdentifierIsZero {H : Type} : DataW H := .iface "*errors.errorString" (.ptr (.agg [.lit (.string [112, 97, 99, 107, 101, 116, 32, 105, 100, 101, 110, 116, 105, 102, 105, 101, 114, 32, 99, 97, 110, 110, 111, 116, 32, 98, 101, 32, 48])]))

/-- 'laws.FnRemaining': WHATEVER THE INPUT: true; the input reads as it did. -/
def fnRemainingSpec : ChangeSpec := { name := "fnRemaining", fn := fun _ => fun
  | [d1, d2] => { results := [.lit (.bool true)], args := [d1, d2] }
  | _ => none }
def fnRemainingRow : OpenClaim := { program := "ytpalhclllhbmkaadoor", sum := "1c9c98708057130d7d296c8b1778b027628ca85d37b028074cddefbb5ffa462d", func := "pub-streamkeep/laws.FnRemaining", spec := "fnRemaining", named := ["bytes.ErrTooLarge", "pub-streamkeep/pub/natsserver/server.errMQTTMalformedVarInt"], apart := false, laid := [("bytes.ErrTooLarge", laid_bytes_ErrTooLarge), ("pub-streamkeep/pub/natsserver/server.errMQTTMalformedVarInt", laid_pub_streamkeep_pub_natsserver_server_errMQTTMalformedVarInt)] }
def FnRemainingSaid : Prop := fnRemainingRow.holds Tryd.pinned (OpenSpec.ofChange fnRemainingSpec)

/-- ITS FALSE NEIGHBOUR: 'it returns false'. Refute it at one input. -/
def fnRemainingWrong : ChangeSpec := { name := "fnRemaining", fn := fun _ => fun
  | [d1, d2] => { results := [.lit (.bool false)], args := [d1, d2] }
  | _ => none }
def FnRemainingWrongFalsely : Prop := fnRemainingRow.holds Tryd.pinned (OpenSpec.ofChange fnRemainingWrong)

/-- 'laws.FnPublishCut': WHATEVER THE INPUT: true; the input reads as it did. -/
def fnPublishCutSpec : ChangeSpec := { name := "fnPublishCut", fn := fun _ => fun
  | [d1, d2, d3] => { results := [.lit (.bool true)], args := [d1, d2, d3] }
  | _ => none }
def fnPublishCutRow : OpenClaim := { program := "ytpalhclllhbmkaadoor", sum := "1c9c98708057130d7d296c8b1778b027628ca85d37b028074cddefbb5ffa462d", func := "pub-streamkeep/laws.FnPublishCut", spec := "fnPublishCut", inPlace := ["internal/bytealg.IndexByte"], unfollowed := true, recurses := true, named := ["pub-streamkeep/pub/natsserver/server.errMQTTTopicIsEmpty", "pub-streamkeep/pub/natsserver/server.errMQTTInvalidPublishLength", "encoding/binary.BigEndian", "unicode/utf8.first", "unicode/utf8.acceptRanges", "pub-streamkeep/pub/natsserver/server.errMQTTUnsupportedCharacters"], apart := false, laid := [("unicode/utf8.acceptRanges", laid_unicode_utf8_acceptRanges), ("pub-streamkeep/pub/natsserver/server.errMQTTTopicIsEmpty", laid_pub_streamkeep_pub_natsserver_server_errMQTTTopicIsEmpty), ("pub-streamkeep/pub/natsserver/server.errMQTTUnsupportedCharacters", laid_pub_streamkeep_pub_natsserver_server_errMQTTUnsupportedCharacters), ("pub-streamkeep/pub/natsserver/server.errMQTTInvalidPublishLength", laid_pub_streamkeep_pub_natsserver_server_errMQTTInvalidPublishLength), ("unicode/utf8.first", laid_unicode_utf8_first)] }
def FnPublishCutSaid : Prop := fnPublishCutRow.holds Tryd.pinned (OpenSpec.ofChange fnPublishCutSpec)

/-- ITS FALSE NEIGHBOUR: 'it returns false'. Refute it at one input. -/
def fnPublishCutWrong : ChangeSpec := { name := "fnPublishCut", fn := fun _ => fun
  | [d1, d2, d3] => { results := [.lit (.bool false)], args := [d1, d2, d3] }
  | _ => none }
def FnPublishCutWrongFalsely : Prop := fnPublishCutRow.holds Tryd.pinned (OpenSpec.ofChange fnPublishCutWrong)

/-- 'laws.FnReadPublish': WHATEVER THE INPUT: true; the input reads as it did. -/
def fnReadPublishSpec : ChangeSpec := { name := "fnReadPublish", fn := fun _ => fun
  | [d1, d2] => { results := [.lit (.bool true)], args := [d1, d2] }
  | _ => none }
def fnReadPublishRow : OpenClaim := { program := "ytpalhclllhbmkaadoor", sum := "1c9c98708057130d7d296c8b1778b027628ca85d37b028074cddefbb5ffa462d", func := "pub-streamkeep/laws.FnReadPublish", spec := "fnReadPublish", inPlace := ["internal/bytealg.IndexByte"], unfollowed := true, recurses := true, named := ["pub-streamkeep/pub/natsserver/server.errMQTTTopicIsEmpty", "pub-streamkeep/pub/natsserver/server.errMQTTInvalidPublishLength", "encoding/binary.BigEndian", "unicode/utf8.first", "unicode/utf8.acceptRanges", "pub-streamkeep/pub/natsserver/server.errMQTTUnsupportedCharacters"], apart := false, laid := [("unicode/utf8.acceptRanges", laid_unicode_utf8_acceptRanges), ("pub-streamkeep/pub/natsserver/server.errMQTTTopicIsEmpty", laid_pub_streamkeep_pub_natsserver_server_errMQTTTopicIsEmpty), ("pub-streamkeep/pub/natsserver/server.errMQTTUnsupportedCharacters", laid_pub_streamkeep_pub_natsserver_server_errMQTTUnsupportedCharacters), ("pub-streamkeep/pub/natsserver/server.errMQTTInvalidPublishLength", laid_pub_streamkeep_pub_natsserver_server_errMQTTInvalidPublishLength), ("unicode/utf8.first", laid_unicode_utf8_first)] }
def FnReadPublishSaid : Prop := fnReadPublishRow.holds Tryd.pinned (OpenSpec.ofChange fnReadPublishSpec)

/-- ITS FALSE NEIGHBOUR: 'it returns false'. Refute it at one input. -/
def fnReadPublishWrong : ChangeSpec := { name := "fnReadPublish", fn := fun _ => fun
  | [d1, d2] => { results := [.lit (.bool false)], args := [d1, d2] }
  | _ => none }
def FnReadPublishWrongFalsely : Prop := fnReadPublishRow.holds Tryd.pinned (OpenSpec.ofChange fnReadPublishWrong)

/-- 'laws.FnReadSubscribe': WHATEVER THE INPUT: true; the input reads as it did. -/
def fnReadSubscribeSpec : ChangeSpec := { name := "fnReadSubscribe", fn := fun _ => fun
  | [d1, d2] => { results := [.lit (.bool true)], args := [d1, d2] }
  | _ => none }
def fnReadSubscribeRow : OpenClaim := { program := "ytpalhclllhbmkaadoor", sum := "1c9c98708057130d7d296c8b1778b027628ca85d37b028074cddefbb5ffa462d", func := "pub-streamkeep/laws.FnReadSubscribe", spec := "fnReadSubscribe", inPlace := ["internal/bytealg.IndexByte"], unfollowed := true, recurses := true, named := ["pub-streamkeep/pub/natsserver/server.errMQTTTopicIsEmpty", "pub-streamkeep/pub/natsserver/server.errMQTTInvalidPublishLength", "encoding/binary.BigEndian", "unicode/utf8.first", "unicode/utf8.acceptRanges", "pub-streamkeep/pub/natsserver/server.errMQTTUnsupportedCharacters", "pub-streamkeep/pub/natsserver/server.errMQTTTopicFilterCannotBeEmpty", "pub-streamkeep/pub/natsserver/server.errMQTTPacketIdentifierIsZero"], apart := false, laid := [("unicode/utf8.acceptRanges", laid_unicode_utf8_acceptRanges), ("pub-streamkeep/pub/natsserver/server.errMQTTTopicFilterCannotBeEmpty", laid_pub_streamkeep_pub_natsserver_server_errMQTTTopicFilterCannotBeEmpty), ("pub-streamkeep/pub/natsserver/server.errMQTTTopicIsEmpty", laid_pub_streamkeep_pub_natsserver_server_errMQTTTopicIsEmpty), ("pub-streamkeep/pub/natsserver/server.errMQTTPacketIdentifierIsZero", laid_pub_streamkeep_pub_natsserver_server_errMQTTPacketIdentifierIsZero), ("pub-streamkeep/pub/natsserver/server.errMQTTUnsupportedCharacters", laid_pub_streamkeep_pub_natsserver_server_errMQTTUnsupportedCharacters), ("pub-streamkeep/pub/natsserver/server.errMQTTInvalidPublishLength", laid_pub_streamkeep_pub_natsserver_server_errMQTTInvalidPublishLength), ("unicode/utf8.first", laid_unicode_utf8_first)] }
def FnReadSubscribeSaid : Prop := fnReadSubscribeRow.holds Tryd.pinned (OpenSpec.ofChange fnReadSubscribeSpec)

/-- ITS FALSE NEIGHBOUR: 'it returns false'. Refute it at one input. -/
def fnReadSubscribeWrong : ChangeSpec := { name := "fnReadSubscribe", fn := fun _ => fun
  | [d1, d2] => { results := [.lit (.bool false)], args := [d1, d2] }
  | _ => none }
def FnReadSubscribeWrongFalsely : Prop := fnReadSubscribeRow.holds Tryd.pinned (OpenSpec.ofChange fnReadSubscribeWrong)

/-- 'laws.FnSubscribeBack': WHATEVER THE INPUT: true; the input reads as it did. -/
def fnSubscribeBackSpec : ChangeSpec := { name := "fnSubscribeBack", fn := fun _ => fun
  | [d1, d2, d3] => { results := [.lit (.bool true)], args := [d1, d2, d3] }
  | _ => none }
def fnSubscribeBackRow : OpenClaim := { program := "ytpalhclllhbmkaadoor", sum := "1c9c98708057130d7d296c8b1778b027628ca85d37b028074cddefbb5ffa462d", func := "pub-streamkeep/laws.FnSubscribeBack", spec := "fnSubscribeBack", inPlace := ["internal/bytealg.IndexByte"], unfollowed := true, recurses := true, named := ["pub-streamkeep/pub/natsserver/server.errMQTTTopicIsEmpty", "pub-streamkeep/pub/natsserver/server.errMQTTInvalidPublishLength", "encoding/binary.BigEndian", "unicode/utf8.first", "unicode/utf8.acceptRanges", "pub-streamkeep/pub/natsserver/server.errMQTTUnsupportedCharacters", "pub-streamkeep/pub/natsserver/server.errMQTTTopicFilterCannotBeEmpty", "pub-streamkeep/pub/natsserver/server.errMQTTPacketIdentifierIsZero"], apart := false, laid := [("unicode/utf8.acceptRanges", laid_unicode_utf8_acceptRanges), ("pub-streamkeep/pub/natsserver/server.errMQTTTopicFilterCannotBeEmpty", laid_pub_streamkeep_pub_natsserver_server_errMQTTTopicFilterCannotBeEmpty), ("pub-streamkeep/pub/natsserver/server.errMQTTTopicIsEmpty", laid_pub_streamkeep_pub_natsserver_server_errMQTTTopicIsEmpty), ("pub-streamkeep/pub/natsserver/server.errMQTTPacketIdentifierIsZero", laid_pub_streamkeep_pub_natsserver_server_errMQTTPacketIdentifierIsZero), ("pub-streamkeep/pub/natsserver/server.errMQTTUnsupportedCharacters", laid_pub_streamkeep_pub_natsserver_server_errMQTTUnsupportedCharacters), ("pub-streamkeep/pub/natsserver/server.errMQTTInvalidPublishLength", laid_pub_streamkeep_pub_natsserver_server_errMQTTInvalidPublishLength), ("unicode/utf8.first", laid_unicode_utf8_first)] }
def FnSubscribeBackSaid : Prop := fnSubscribeBackRow.holds Tryd.pinned (OpenSpec.ofChange fnSubscribeBackSpec)

/-- ITS FALSE NEIGHBOUR: 'it returns false'. Refute it at one input. -/
def fnSubscribeBackWrong : ChangeSpec := { name := "fnSubscribeBack", fn := fun _ => fun
  | [d1, d2, d3] => { results := [.lit (.bool false)], args := [d1, d2, d3] }
  | _ => none }
def FnSubscribeBackWrongFalsely : Prop := fnSubscribeBackRow.holds Tryd.pinned (OpenSpec.ofChange fnSubscribeBackWrong)

/- THE SECOND FORM. 'bulk': how many values and letters a reading holds, each counted each time it is reached (what is shared counts as often as it is met; a slice's spare places count too). A statement '..UptoSaid' is the law's where the arguments, and the package variables that the reading takes, are together of bulk at most 1048576: NARROWER than '..Said'. Prove '..Said' where nothing that the law and all that it calls make is longer than what came in: it says more and counts as full. Else prove '..UptoSaid'. A law counts once. -/
mutual
def uptoBulk {H : Type} : DataW H → Nat
  | .lit (.string bytes) => bytes.length + 1
  | .lit _ => 1
  | .nil => 1
  | .ptr d => uptoBulk d + 1
  | .slice elems spare => uptoBulkAll elems + uptoBulkAll spare + 1
  | .agg parts => uptoBulkAll parts + 1
  | .iface _ d => uptoBulk d + 1
  | .map entries => uptoBulkEntries entries + 1
  | .held _ => 1
def uptoBulkAll {H : Type} : List (DataW H) → Nat
  | [] => 0
  | d :: r => uptoBulk d + uptoBulkAll r
def uptoBulkEntries {H : Type} : List (Lit × DataW H) → Nat
  | [] => 0
  | x :: r => uptoBulkEntry x + uptoBulkEntries r
def uptoBulkEntry {H : Type} : Lit × DataW H → Nat
  | (.string bytes, d) => bytes.length + uptoBulk d + 1
  | (_, d) => uptoBulk d + 1
 end
def uptoSmall : (H : Type) → List (DataW H) → Bool := fun _ ds => decide (uptoBulkAll ds ≤ 1048576)
def OpenSpec.upto (s : _root_.Go.ChangeSpec) : _root_.Go.OpenSpec := { _root_.Go.OpenSpec.ofChange s with cond := some uptoSmall }

/-- 'laws.FnRemaining', WHERE WHAT IT READS IS OF BULK AT MOST 1048576: true; the input reads as it did. -/
def fnRemainingUptoRow : OpenClaim := { program := "ytpalhclllhbmkaadoor", sum := "1c9c98708057130d7d296c8b1778b027628ca85d37b028074cddefbb5ffa462d", func := "pub-streamkeep/laws.FnRemaining", spec := "fnRemaining", named := ["bytes.ErrTooLarge", "pub-streamkeep/pub/natsserver/server.errMQTTMalformedVarInt"], apart := false, laid := [("bytes.ErrTooLarge", laid_bytes_ErrTooLarge), ("pub-streamkeep/pub/natsserver/server.errMQTTMalformedVarInt", laid_pub_streamkeep_pub_natsserver_server_errMQTTMalformedVarInt)], narrowed := true }
def FnRemainingUptoSaid : Prop := fnRemainingUptoRow.holds Tryd.pinned (OpenSpec.upto fnRemainingSpec)

/-- 'laws.FnPublishCut', WHERE WHAT IT READS IS OF BULK AT MOST 1048576: true; the input reads as it did. -/
def fnPublishCutUptoRow : OpenClaim := { program := "ytpalhclllhbmkaadoor", sum := "1c9c98708057130d7d296c8b1778b027628ca85d37b028074cddefbb5ffa462d", func := "pub-streamkeep/laws.FnPublishCut", spec := "fnPublishCut", inPlace := ["internal/bytealg.IndexByte"], unfollowed := true, recurses := true, named := ["pub-streamkeep/pub/natsserver/server.errMQTTTopicIsEmpty", "pub-streamkeep/pub/natsserver/server.errMQTTInvalidPublishLength", "encoding/binary.BigEndian", "unicode/utf8.first", "unicode/utf8.acceptRanges", "pub-streamkeep/pub/natsserver/server.errMQTTUnsupportedCharacters"], apart := false, laid := [("unicode/utf8.acceptRanges", laid_unicode_utf8_acceptRanges), ("pub-streamkeep/pub/natsserver/server.errMQTTTopicIsEmpty", laid_pub_streamkeep_pub_natsserver_server_errMQTTTopicIsEmpty), ("pub-streamkeep/pub/natsserver/server.errMQTTUnsupportedCharacters", laid_pub_streamkeep_pub_natsserver_server_errMQTTUnsupportedCharacters), ("pub-streamkeep/pub/natsserver/server.errMQTTInvalidPublishLength", laid_pub_streamkeep_pub_natsserver_server_errMQTTInvalidPublishLength), ("unicode/utf8.first", laid_unicode_utf8_first)], narrowed := true }
def FnPublishCutUptoSaid : Prop := fnPublishCutUptoRow.holds Tryd.pinned (OpenSpec.upto fnPublishCutSpec)

/-- 'laws.FnReadPublish', WHERE WHAT IT READS IS OF BULK AT MOST 1048576: true; the input reads as it did. -/
def fnReadPublishUptoRow : OpenClaim := { program := "ytpalhclllhbmkaadoor", sum := "1c9c98708057130d7d296c8b1778b027628ca85d37b028074cddefbb5ffa462d", func := "pub-streamkeep/laws.FnReadPublish", spec := "fnReadPublish", inPlace := ["internal/bytealg.IndexByte"], unfollowed := true, recurses := true, named := ["pub-streamkeep/pub/natsserver/server.errMQTTTopicIsEmpty", "pub-streamkeep/pub/natsserver/server.errMQTTInvalidPublishLength", "encoding/binary.BigEndian", "unicode/utf8.first", "unicode/utf8.acceptRanges", "pub-streamkeep/pub/natsserver/server.errMQTTUnsupportedCharacters"], apart := false, laid := [("unicode/utf8.acceptRanges", laid_unicode_utf8_acceptRanges), ("pub-streamkeep/pub/natsserver/server.errMQTTTopicIsEmpty", laid_pub_streamkeep_pub_natsserver_server_errMQTTTopicIsEmpty), ("pub-streamkeep/pub/natsserver/server.errMQTTUnsupportedCharacters", laid_pub_streamkeep_pub_natsserver_server_errMQTTUnsupportedCharacters), ("pub-streamkeep/pub/natsserver/server.errMQTTInvalidPublishLength", laid_pub_streamkeep_pub_natsserver_server_errMQTTInvalidPublishLength), ("unicode/utf8.first", laid_unicode_utf8_first)], narrowed := true }
def FnReadPublishUptoSaid : Prop := fnReadPublishUptoRow.holds Tryd.pinned (OpenSpec.upto fnReadPublishSpec)

/-- 'laws.FnReadSubscribe', WHERE WHAT IT READS IS OF BULK AT MOST 1048576: true; the input reads as it did. -/
def fnReadSubscribeUptoRow : OpenClaim := { program := "ytpalhclllhbmkaadoor", sum := "1c9c98708057130d7d296c8b1778b027628ca85d37b028074cddefbb5ffa462d", func := "pub-streamkeep/laws.FnReadSubscribe", spec := "fnReadSubscribe", inPlace := ["internal/bytealg.IndexByte"], unfollowed := true, recurses := true, named := ["pub-streamkeep/pub/natsserver/server.errMQTTTopicIsEmpty", "pub-streamkeep/pub/natsserver/server.errMQTTInvalidPublishLength", "encoding/binary.BigEndian", "unicode/utf8.first", "unicode/utf8.acceptRanges", "pub-streamkeep/pub/natsserver/server.errMQTTUnsupportedCharacters", "pub-streamkeep/pub/natsserver/server.errMQTTTopicFilterCannotBeEmpty", "pub-streamkeep/pub/natsserver/server.errMQTTPacketIdentifierIsZero"], apart := false, laid := [("unicode/utf8.acceptRanges", laid_unicode_utf8_acceptRanges), ("pub-streamkeep/pub/natsserver/server.errMQTTTopicFilterCannotBeEmpty", laid_pub_streamkeep_pub_natsserver_server_errMQTTTopicFilterCannotBeEmpty), ("pub-streamkeep/pub/natsserver/server.errMQTTTopicIsEmpty", laid_pub_streamkeep_pub_natsserver_server_errMQTTTopicIsEmpty), ("pub-streamkeep/pub/natsserver/server.errMQTTPacketIdentifierIsZero", laid_pub_streamkeep_pub_natsserver_server_errMQTTPacketIdentifierIsZero), ("pub-streamkeep/pub/natsserver/server.errMQTTUnsupportedCharacters", laid_pub_streamkeep_pub_natsserver_server_errMQTTUnsupportedCharacters), ("pub-streamkeep/pub/natsserver/server.errMQTTInvalidPublishLength", laid_pub_streamkeep_pub_natsserver_server_errMQTTInvalidPublishLength), ("unicode/utf8.first", laid_unicode_utf8_first)], narrowed := true }
def FnReadSubscribeUptoSaid : Prop := fnReadSubscribeUptoRow.holds Tryd.pinned (OpenSpec.upto fnReadSubscribeSpec)

/-- 'laws.FnSubscribeBack', WHERE WHAT IT READS IS OF BULK AT MOST 1048576: true; the input reads as it did. -/
def fnSubscribeBackUptoRow : OpenClaim := { program := "ytpalhclllhbmkaadoor", sum := "1c9c98708057130d7d296c8b1778b027628ca85d37b028074cddefbb5ffa462d", func := "pub-streamkeep/laws.FnSubscribeBack", spec := "fnSubscribeBack", inPlace := ["internal/bytealg.IndexByte"], unfollowed := true, recurses := true, named := ["pub-streamkeep/pub/natsserver/server.errMQTTTopicIsEmpty", "pub-streamkeep/pub/natsserver/server.errMQTTInvalidPublishLength", "encoding/binary.BigEndian", "unicode/utf8.first", "unicode/utf8.acceptRanges", "pub-streamkeep/pub/natsserver/server.errMQTTUnsupportedCharacters", "pub-streamkeep/pub/natsserver/server.errMQTTTopicFilterCannotBeEmpty", "pub-streamkeep/pub/natsserver/server.errMQTTPacketIdentifierIsZero"], apart := false, laid := [("unicode/utf8.acceptRanges", laid_unicode_utf8_acceptRanges), ("pub-streamkeep/pub/natsserver/server.errMQTTTopicFilterCannotBeEmpty", laid_pub_streamkeep_pub_natsserver_server_errMQTTTopicFilterCannotBeEmpty), ("pub-streamkeep/pub/natsserver/server.errMQTTTopicIsEmpty", laid_pub_streamkeep_pub_natsserver_server_errMQTTTopicIsEmpty), ("pub-streamkeep/pub/natsserver/server.errMQTTPacketIdentifierIsZero", laid_pub_streamkeep_pub_natsserver_server_errMQTTPacketIdentifierIsZero), ("pub-streamkeep/pub/natsserver/server.errMQTTUnsupportedCharacters", laid_pub_streamkeep_pub_natsserver_server_errMQTTUnsupportedCharacters), ("pub-streamkeep/pub/natsserver/server.errMQTTInvalidPublishLength", laid_pub_streamkeep_pub_natsserver_server_errMQTTInvalidPublishLength), ("unicode/utf8.first", laid_unicode_utf8_first)], narrowed := true }
def FnSubscribeBackUptoSaid : Prop := fnSubscribeBackUptoRow.holds Tryd.pinned (OpenSpec.upto fnSubscribeBackSpec)

end Rows
end Go.Proofs.YtpalhclllhbmkaaDoor
