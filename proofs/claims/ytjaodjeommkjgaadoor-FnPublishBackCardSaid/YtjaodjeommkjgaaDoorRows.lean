/-
  NARROWER THAN 'FOR EVERY INPUT', by the rows' own cells (each row's printed sentence says how): FnLengthCuts: laid · FnReadLength: laid · FnPublishBack: laid · FnTopicApart: laid · FnTopic: laid.
  DERIVED. THE GIVEN ROWS OF THIS SEAT. 5 by the template 'for every input the law returns true; each argument reads behind the call as it read before'; 0 by the template 'total and deterministic' (their statements: YtjaodjeommkjgaaDoorTotals.lean).
  GIVEN WITH THE SEED: the statements are not yours to turn. If you find one false, say at which input.
  Laid BY PROGRAM, IN A SANDBOX (cutbox-rows.mjs): the forced cells as the released guide's own fill.sh prints them over the translation 5875da4e7760276f… (all of the seat's roots in one cut). By AI agents, Wed Nov 11 2026. No macro, syntax, notation, axiom, sorry.
-/
import Derived.Test.YtjaodjeommkjgaaDoorChecked
import GoSem.PinnedTables
import GoSem.Claim
import GoSem.ClaimJoined
import GoSem.ClaimMapViews
import Derived.JoinedTies
import Derived.KernelRfl
namespace Go.Proofs.YtjaodjeommkjgaaDoor
/- THE CELL 'sum', in the pinned program and in every row, IS THE sha256 OF THE DUMP (.gsa) THAT YtjaodjeommkjgaaDoorProg.lean LOADS. Nothing in Lean hashes anything: it is a label: what it is worth is what the hold of that sum in a sandbox is worth. -/
noncomputable def Tryd.pinned : Pinned := { name := "ytjaodjeommkjgaadoor", sum := "5875da4e7760276ffbc7e3d930f280da4299ec74f900b402d2b944bc94797786", checked := Tryd.checked }
namespace Rows
def none {H : Type} : Left H := { results := [], args := [] }

/- WHAT THE LISTED PACKAGE-LEVEL VARIABLES READ AS WHEN THE CALL BEGINS. Each datum BY PROGRAM (the guide's laid-datum.mjs) off the statement by which the dump's own 'gosem.cut.vars' lays the variable. In a bare row this is a premise. The card (YtjaodjeommkjgaaDoorCards.lean) ties it to the program's text. -/
def laid_pub_streamkeep_pub_natsserver_server_errMQTTMalformedVarInt {H : Type} : DataW H := .iface "*errors.errorString" (.ptr (.agg [.lit (.string [109, 97, 108, 102, 111, 114, 109, 101, 100, 32, 118, 97, 114, 105, 97, 98, 108, 101, 32, 105, 110, 116])]))
def laid_unicode_utf8_acceptRanges {H : Type} : DataW H := .agg [.agg [.lit (.int .u8 128), .lit (.int .u8 191)], .agg [.lit (.int .u8 160), .lit (.int .u8 191)], .agg [.lit (.int .u8 128), .lit (.int .u8 159)], .agg [.lit (.int .u8 144), .lit (.int .u8 191)], .agg [.lit (.int .u8 128), .lit (.int .u8 143)], .agg [.lit (.int .u8 0), .lit (.int .u8 0)], .agg [.lit (.int .u8 0), .lit (.int .u8 0)], .agg [.lit (.int .u8 0), .lit (.int .u8 0)], .agg [.lit (.int .u8 0), .lit (.int .u8 0)], .agg [.lit (.int .u8 0), .lit (.int .u8 0)], .agg [.lit (.int .u8 0), .lit (.int .u8 0)], .agg [.lit (.int .u8 0), .lit (.int .u8 0)], .agg [.lit (.int .u8 0), .lit (.int .u8 0)], .agg [.lit (.int .u8 0), .lit (.int .u8 0)], .agg [.lit (.int .u8 0), .lit (.int .u8 0)], .agg [.lit (.int .u8 0), .lit (.int .u8 0)]]
def laid_pub_streamkeep_pub_natsserver_server_errMQTTTopicIsEmpty {H : Type} : DataW H := .iface "*errors.errorString" (.ptr (.agg [.lit (.string [116, 111, 112, 105, 99, 32, 99, 97, 110, 110, 111, 116, 32, 98, 101, 32, 101, 109, 112, 116, 121])]))
def laid_pub_streamkeep_pub_natsserver_server_errMQTTUnsupportedCharacters {H : Type} : DataW H := .iface "*errors.errorString" (.ptr (.agg [.lit (.string [99, 104, 97, 114, 97, 99, 116, 101, 114, 32, 110, 111, 116, 32, 115, 117, 112, 112, 111, 114, 116, 101, 100, 32, 102, 111, 114, 32, 77, 81, 84, 84, 32, 116, 111, 112, 105, 99, 115])]))
def laid_pub_streamkeep_pub_natsserver_server_errMQTTInvalidPublishLength {H : Type} : DataW H := .iface "*errors.errorString" (.ptr (.agg [.lit (.string [105, 110, 118, 97, 108, 105, 100, 32, 112, 117, 98, 108, 105, 115, 104, 32, 109, 101, 115, 115, 97, 103, 101, 44, 32, 118, 97, 114, 105, 97, 98, 108, 101, 32, 104, 101, 97, 100, 101, 114, 32, 101, 120, 99, 101, 101, 100, 115, 32, 114, 101, 109, 97, 105, 110, 105, 110, 103, 32, 108, 101, 110, 103, 116, 104])]))
/-- One of Go's own tables, pinned by name: the form's constant. -/
def laid_unicode_utf8_first : DataW Unit := Go.Pinned.utf8First

/-- 'laws.FnLengthCuts': WHATEVER THE INPUT: true; the input reads as it did. -/
def fnLengthCutsSpec : ChangeSpec := { name := "fnLengthCuts", fn := fun _ => fun
  | [d1, d2] => { results := [.lit (.bool true)], args := [d1, d2] }
  | _ => none }
def fnLengthCutsRow : OpenClaim := { program := "ytjaodjeommkjgaadoor", sum := "5875da4e7760276ffbc7e3d930f280da4299ec74f900b402d2b944bc94797786", func := "pub-streamkeep/laws.FnLengthCuts", spec := "fnLengthCuts", named := ["pub-streamkeep/pub/natsserver/server.errMQTTMalformedVarInt"], apart := false, laid := [("pub-streamkeep/pub/natsserver/server.errMQTTMalformedVarInt", laid_pub_streamkeep_pub_natsserver_server_errMQTTMalformedVarInt)] }
def FnLengthCutsSaid : Prop := fnLengthCutsRow.holds Tryd.pinned (OpenSpec.ofChange fnLengthCutsSpec)

/-- ITS FALSE NEIGHBOUR: 'it returns false'. Refute it at one input. -/
def fnLengthCutsWrong : ChangeSpec := { name := "fnLengthCuts", fn := fun _ => fun
  | [d1, d2] => { results := [.lit (.bool false)], args := [d1, d2] }
  | _ => none }
def FnLengthCutsWrongFalsely : Prop := fnLengthCutsRow.holds Tryd.pinned (OpenSpec.ofChange fnLengthCutsWrong)

/-- 'laws.FnReadLength': WHATEVER THE INPUT: true; the input reads as it did. -/
def fnReadLengthSpec : ChangeSpec := { name := "fnReadLength", fn := fun _ => fun
  | [d] => { results := [.lit (.bool true)], args := [d] }
  | _ => none }
def fnReadLengthRow : OpenClaim := { program := "ytjaodjeommkjgaadoor", sum := "5875da4e7760276ffbc7e3d930f280da4299ec74f900b402d2b944bc94797786", func := "pub-streamkeep/laws.FnReadLength", spec := "fnReadLength", named := ["pub-streamkeep/pub/natsserver/server.errMQTTMalformedVarInt"], apart := false, laid := [("pub-streamkeep/pub/natsserver/server.errMQTTMalformedVarInt", laid_pub_streamkeep_pub_natsserver_server_errMQTTMalformedVarInt)] }
def FnReadLengthSaid : Prop := fnReadLengthRow.holds Tryd.pinned (OpenSpec.ofChange fnReadLengthSpec)

/-- ITS FALSE NEIGHBOUR: 'it returns false'. Refute it at one input. -/
def fnReadLengthWrong : ChangeSpec := { name := "fnReadLength", fn := fun _ => fun
  | [d] => { results := [.lit (.bool false)], args := [d] }
  | _ => none }
def FnReadLengthWrongFalsely : Prop := fnReadLengthRow.holds Tryd.pinned (OpenSpec.ofChange fnReadLengthWrong)

/-- 'laws.FnPublishBack': WHATEVER THE INPUT: true; the input reads as it did. -/
def fnPublishBackSpec : ChangeSpec := { name := "fnPublishBack", fn := fun _ => fun
  | [d1, d2, d3, d4, d5] => { results := [.lit (.bool true)], args := [d1, d2, d3, d4, d5] }
  | _ => none }
def fnPublishBackRow : OpenClaim := { program := "ytjaodjeommkjgaadoor", sum := "5875da4e7760276ffbc7e3d930f280da4299ec74f900b402d2b944bc94797786", func := "pub-streamkeep/laws.FnPublishBack", spec := "fnPublishBack", inPlace := ["internal/bytealg.IndexByte"], unfollowed := true, recurses := true, named := ["pub-streamkeep/pub/natsserver/server.errMQTTTopicIsEmpty", "pub-streamkeep/pub/natsserver/server.errMQTTInvalidPublishLength", "encoding/binary.BigEndian", "unicode/utf8.first", "unicode/utf8.acceptRanges", "pub-streamkeep/pub/natsserver/server.errMQTTUnsupportedCharacters"], apart := false, laid := [("unicode/utf8.acceptRanges", laid_unicode_utf8_acceptRanges), ("pub-streamkeep/pub/natsserver/server.errMQTTTopicIsEmpty", laid_pub_streamkeep_pub_natsserver_server_errMQTTTopicIsEmpty), ("pub-streamkeep/pub/natsserver/server.errMQTTUnsupportedCharacters", laid_pub_streamkeep_pub_natsserver_server_errMQTTUnsupportedCharacters), ("pub-streamkeep/pub/natsserver/server.errMQTTInvalidPublishLength", laid_pub_streamkeep_pub_natsserver_server_errMQTTInvalidPublishLength), ("unicode/utf8.first", laid_unicode_utf8_first)] }
def FnPublishBackSaid : Prop := fnPublishBackRow.holds Tryd.pinned (OpenSpec.ofChange fnPublishBackSpec)

/-- ITS FALSE NEIGHBOUR: 'it returns false'. Refute it at one input. -/
def fnPublishBackWrong : ChangeSpec := { name := "fnPublishBack", fn := fun _ => fun
  | [d1, d2, d3, d4, d5] => { results := [.lit (.bool false)], args := [d1, d2, d3, d4, d5] }
  | _ => none }
def FnPublishBackWrongFalsely : Prop := fnPublishBackRow.holds Tryd.pinned (OpenSpec.ofChange fnPublishBackWrong)

/-- 'laws.FnTopicApart': WHATEVER THE INPUT: true; the input reads as it did. -/
def fnTopicApartSpec : ChangeSpec := { name := "fnTopicApart", fn := fun _ => fun
  | [d1, d2] => { results := [.lit (.bool true)], args := [d1, d2] }
  | _ => none }
def fnTopicApartRow : OpenClaim := { program := "ytjaodjeommkjgaadoor", sum := "5875da4e7760276ffbc7e3d930f280da4299ec74f900b402d2b944bc94797786", func := "pub-streamkeep/laws.FnTopicApart", spec := "fnTopicApart", inPlace := ["internal/bytealg.IndexByte"], unfollowed := true, recurses := true, named := ["pub-streamkeep/pub/natsserver/server.errMQTTTopicIsEmpty", "pub-streamkeep/pub/natsserver/server.errMQTTInvalidPublishLength", "encoding/binary.BigEndian", "unicode/utf8.first", "unicode/utf8.acceptRanges", "pub-streamkeep/pub/natsserver/server.errMQTTUnsupportedCharacters"], apart := false, laid := [("unicode/utf8.acceptRanges", laid_unicode_utf8_acceptRanges), ("pub-streamkeep/pub/natsserver/server.errMQTTTopicIsEmpty", laid_pub_streamkeep_pub_natsserver_server_errMQTTTopicIsEmpty), ("pub-streamkeep/pub/natsserver/server.errMQTTUnsupportedCharacters", laid_pub_streamkeep_pub_natsserver_server_errMQTTUnsupportedCharacters), ("pub-streamkeep/pub/natsserver/server.errMQTTInvalidPublishLength", laid_pub_streamkeep_pub_natsserver_server_errMQTTInvalidPublishLength), ("unicode/utf8.first", laid_unicode_utf8_first)] }
def FnTopicApartSaid : Prop := fnTopicApartRow.holds Tryd.pinned (OpenSpec.ofChange fnTopicApartSpec)

/-- ITS FALSE NEIGHBOUR: 'it returns false'. Refute it at one input. -/
def fnTopicApartWrong : ChangeSpec := { name := "fnTopicApart", fn := fun _ => fun
  | [d1, d2] => { results := [.lit (.bool false)], args := [d1, d2] }
  | _ => none }
def FnTopicApartWrongFalsely : Prop := fnTopicApartRow.holds Tryd.pinned (OpenSpec.ofChange fnTopicApartWrong)

/-- 'laws.FnTopic': WHATEVER THE INPUT: true; the input reads as it did. -/
def fnTopicSpec : ChangeSpec := { name := "fnTopic", fn := fun _ => fun
  | [d1, d2] => { results := [.lit (.bool true)], args := [d1, d2] }
  | _ => none }
def fnTopicRow : OpenClaim := { program := "ytjaodjeommkjgaadoor", sum := "5875da4e7760276ffbc7e3d930f280da4299ec74f900b402d2b944bc94797786", func := "pub-streamkeep/laws.FnTopic", spec := "fnTopic", inPlace := ["internal/bytealg.IndexByte"], unfollowed := true, recurses := true, named := ["pub-streamkeep/pub/natsserver/server.errMQTTTopicIsEmpty", "pub-streamkeep/pub/natsserver/server.errMQTTInvalidPublishLength", "encoding/binary.BigEndian", "unicode/utf8.first", "unicode/utf8.acceptRanges", "pub-streamkeep/pub/natsserver/server.errMQTTUnsupportedCharacters"], apart := false, laid := [("unicode/utf8.acceptRanges", laid_unicode_utf8_acceptRanges), ("pub-streamkeep/pub/natsserver/server.errMQTTTopicIsEmpty", laid_pub_streamkeep_pub_natsserver_server_errMQTTTopicIsEmpty), ("pub-streamkeep/pub/natsserver/server.errMQTTUnsupportedCharacters", laid_pub_streamkeep_pub_natsserver_server_errMQTTUnsupportedCharacters), ("pub-streamkeep/pub/natsserver/server.errMQTTInvalidPublishLength", laid_pub_streamkeep_pub_natsserver_server_errMQTTInvalidPublishLength), ("unicode/utf8.first", laid_unicode_utf8_first)] }
def FnTopicSaid : Prop := fnTopicRow.holds Tryd.pinned (OpenSpec.ofChange fnTopicSpec)

/-- ITS FALSE NEIGHBOUR: 'it returns false'. Refute it at one input. -/
def fnTopicWrong : ChangeSpec := { name := "fnTopic", fn := fun _ => fun
  | [d1, d2] => { results := [.lit (.bool false)], args := [d1, d2] }
  | _ => none }
def FnTopicWrongFalsely : Prop := fnTopicRow.holds Tryd.pinned (OpenSpec.ofChange fnTopicWrong)

/- THE SECOND FORM. 'bulk': how many values and letters a reading holds, each counted each time it is reached (what is shared counts as often as it is met; a slice's spare places count too). A statement '..UptoSaid' is the law's where the arguments, and the package variables that the reading takes, are together of bulk at most 1048576: NARROWER than '..Said'. Prove '..Said' where nothing that the law and all that it calls make is longer than what came in: it says more and counts as full. Else prove '..UptoSaid'. A law counts once. -/
mutual
def uptoBulk {H : Type} : DataW H → Nat
  | .lit (.string bytes) => bytes.length + 1
  | .lit _ => 1
  | .nil => 1
  | .ptr d => uptoBulk d + 1
  | .slice elems spare => uptoBulkAll elems + uptoBulkAll spare + 1
  | .agg parts => uptoBulkAll parts + 1
  | .iface _ d => uptoBulk d + 1
  | .map entries => uptoBulkEntries entries + 1
  | .held _ => 1
def uptoBulkAll {H : Type} : List (DataW H) → Nat
  | [] => 0
  | d :: r => uptoBulk d + uptoBulkAll r
def uptoBulkEntries {H : Type} : List (Lit × DataW H) → Nat
  | [] => 0
  | x :: r => uptoBulkEntry x + uptoBulkEntries r
def uptoBulkEntry {H : Type} : Lit × DataW H → Nat
  | (.string bytes, d) => bytes.length + uptoBulk d + 1
  | (_, d) => uptoBulk d + 1
 end
def uptoSmall : (H : Type) → List (DataW H) → Bool := fun _ ds => decide (uptoBulkAll ds ≤ 1048576)
def OpenSpec.upto (s : _root_.Go.ChangeSpec) : _root_.Go.OpenSpec := { _root_.Go.OpenSpec.ofChange s with cond := some uptoSmall }

/-- 'laws.FnLengthCuts', WHERE WHAT IT READS IS OF BULK AT MOST 1048576: true; the input reads as it did. -/
def fnLengthCutsUptoRow : OpenClaim := { program := "ytjaodjeommkjgaadoor", sum := "5875da4e7760276ffbc7e3d930f280da4299ec74f900b402d2b944bc94797786", func := "pub-streamkeep/laws.FnLengthCuts", spec := "fnLengthCuts", named := ["pub-streamkeep/pub/natsserver/server.errMQTTMalformedVarInt"], apart := false, laid := [("pub-streamkeep/pub/natsserver/server.errMQTTMalformedVarInt", laid_pub_streamkeep_pub_natsserver_server_errMQTTMalformedVarInt)], narrowed := true }
def FnLengthCutsUptoSaid : Prop := fnLengthCutsUptoRow.holds Tryd.pinned (OpenSpec.upto fnLengthCutsSpec)

/-- 'laws.FnReadLength', WHERE WHAT IT READS IS OF BULK AT MOST 1048576: true; the input reads as it did. -/
def fnReadLengthUptoRow : OpenClaim := { program := "ytjaodjeommkjgaadoor", sum := "5875da4e7760276ffbc7e3d930f280da4299ec74f900b402d2b944bc94797786", func := "pub-streamkeep/laws.FnReadLength", spec := "fnReadLength", named := ["pub-streamkeep/pub/natsserver/server.errMQTTMalformedVarInt"], apart := false, laid := [("pub-streamkeep/pub/natsserver/server.errMQTTMalformedVarInt", laid_pub_streamkeep_pub_natsserver_server_errMQTTMalformedVarInt)], narrowed := true }
def FnReadLengthUptoSaid : Prop := fnReadLengthUptoRow.holds Tryd.pinned (OpenSpec.upto fnReadLengthSpec)

/-- 'laws.FnPublishBack', WHERE WHAT IT READS IS OF BULK AT MOST 1048576: true; the input reads as it did. -/
def fnPublishBackUptoRow : OpenClaim := { program := "ytjaodjeommkjgaadoor", sum := "5875da4e7760276ffbc7e3d930f280da4299ec74f900b402d2b944bc94797786", func := "pub-streamkeep/laws.FnPublishBack", spec := "fnPublishBack", inPlace := ["internal/bytealg.IndexByte"], unfollowed := true, recurses := true, named := ["pub-streamkeep/pub/natsserver/server.errMQTTTopicIsEmpty", "pub-streamkeep/pub/natsserver/server.errMQTTInvalidPublishLength", "encoding/binary.BigEndian", "unicode/utf8.first", "unicode/utf8.acceptRanges", "pub-streamkeep/pub/natsserver/server.errMQTTUnsupportedCharacters"], apart := false, laid := [("unicode/utf8.acceptRanges", laid_unicode_utf8_acceptRanges), ("pub-streamkeep/pub/natsserver/server.errMQTTTopicIsEmpty", laid_pub_streamkeep_pub_natsserver_server_errMQTTTopicIsEmpty), ("pub-streamkeep/pub/natsserver/server.errMQTTUnsupportedCharacters", laid_pub_streamkeep_pub_natsserver_server_errMQTTUnsupportedCharacters), ("pub-streamkeep/pub/natsserver/server.errMQTTInvalidPublishLength", laid_pub_streamkeep_pub_natsserver_server_errMQTTInvalidPublishLength), ("unicode/utf8.first", laid_unicode_utf8_first)], narrowed := true }
def FnPublishBackUptoSaid : Prop := fnPublishBackUptoRow.holds Tryd.pinned (OpenSpec.upto fnPublishBackSpec)

/-- 'laws.FnTopicApart', WHERE WHAT IT READS IS OF BULK AT MOST 1048576: true; the input reads as it did. -/
def fnTopicApartUptoRow : OpenClaim := { program := "ytjaodjeommkjgaadoor", sum := "5875da4e7760276ffbc7e3d930f280da4299ec74f900b402d2b944bc94797786", func := "pub-streamkeep/laws.FnTopicApart", spec := "fnTopicApart", inPlace := ["internal/bytealg.IndexByte"], unfollowed := true, recurses := true, named := ["pub-streamkeep/pub/natsserver/server.errMQTTTopicIsEmpty", "pub-streamkeep/pub/natsserver/server.errMQTTInvalidPublishLength", "encoding/binary.BigEndian", "unicode/utf8.first", "unicode/utf8.acceptRanges", "pub-streamkeep/pub/natsserver/server.errMQTTUnsupportedCharacters"], apart := false, laid := [("unicode/utf8.acceptRanges", laid_unicode_utf8_acceptRanges), ("pub-streamkeep/pub/natsserver/server.errMQTTTopicIsEmpty", laid_pub_streamkeep_pub_natsserver_server_errMQTTTopicIsEmpty), ("pub-streamkeep/pub/natsserver/server.errMQTTUnsupportedCharacters", laid_pub_streamkeep_pub_natsserver_server_errMQTTUnsupportedCharacters), ("pub-streamkeep/pub/natsserver/server.errMQTTInvalidPublishLength", laid_pub_streamkeep_pub_natsserver_server_errMQTTInvalidPublishLength), ("unicode/utf8.first", laid_unicode_utf8_first)], narrowed := true }
def FnTopicApartUptoSaid : Prop := fnTopicApartUptoRow.holds Tryd.pinned (OpenSpec.upto fnTopicApartSpec)

/-- 'laws.FnTopic', WHERE WHAT IT READS IS OF BULK AT MOST 1048576: true; the input reads as it did. -/
def fnTopicUptoRow : OpenClaim := { program := "ytjaodjeommkjgaadoor", sum := "5875da4e7760276ffbc7e3d930f280da4299ec74f900b402d2b944bc94797786", func := "pub-streamkeep/laws.FnTopic", spec := "fnTopic", inPlace := ["internal/bytealg.IndexByte"], unfollowed := true, recurses := true, named := ["pub-streamkeep/pub/natsserver/server.errMQTTTopicIsEmpty", "pub-streamkeep/pub/natsserver/server.errMQTTInvalidPublishLength", "encoding/binary.BigEndian", "unicode/utf8.first", "unicode/utf8.acceptRanges", "pub-streamkeep/pub/natsserver/server.errMQTTUnsupportedCharacters"], apart := false, laid := [("unicode/utf8.acceptRanges", laid_unicode_utf8_acceptRanges), ("pub-streamkeep/pub/natsserver/server.errMQTTTopicIsEmpty", laid_pub_streamkeep_pub_natsserver_server_errMQTTTopicIsEmpty), ("pub-streamkeep/pub/natsserver/server.errMQTTUnsupportedCharacters", laid_pub_streamkeep_pub_natsserver_server_errMQTTUnsupportedCharacters), ("pub-streamkeep/pub/natsserver/server.errMQTTInvalidPublishLength", laid_pub_streamkeep_pub_natsserver_server_errMQTTInvalidPublishLength), ("unicode/utf8.first", laid_unicode_utf8_first)], narrowed := true }
def FnTopicUptoSaid : Prop := fnTopicUptoRow.holds Tryd.pinned (OpenSpec.upto fnTopicSpec)

end Rows
end Go.Proofs.YtjaodjeommkjgaaDoor
