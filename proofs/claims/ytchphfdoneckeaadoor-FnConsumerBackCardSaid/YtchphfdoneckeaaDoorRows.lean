/-
  NARROWER THAN 'FOR EVERY INPUT', by the rows' own cells (each row's printed sentence says how): FnConsumerOrder: laid · FnConsumerTwice: laid · FnConsumerUpdate: laid · FnConsumerBack: laid.
  DERIVED. THE GIVEN ROWS OF THIS SEAT. 4 by the template 'for every input the law returns true; each argument reads behind the call as it read before'; 0 by the template 'total and deterministic' (their statements: YtchphfdoneckeaaDoorTotals.lean).
  GIVEN WITH THE SEED: the statements are not yours to turn. If you find one false, say at which input.
  Laid BY PROGRAM, IN A SANDBOX (cutbox-rows.mjs): the forced cells as the released guide's own fill.sh prints them over the translation 6350eccf3e342193… (all of the seat's roots in one cut). By AI agents, Wed Nov 11 2026. No macro, syntax, notation, axiom, sorry.
-/
import Derived.Test.YtchphfdoneckeaaDoorChecked
import GoSem.Claim
import GoSem.ClaimJoined
import GoSem.ClaimMapViews
import Derived.JoinedTies
import Derived.KernelRfl
namespace Go.Proofs.YtchphfdoneckeaaDoor
/- THE CELL 'sum', in the pinned program and in every row, IS THE sha256 OF THE DUMP (.gsa) THAT YtchphfdoneckeaaDoorProg.lean LOADS. Nothing in Lean hashes anything: it is a label: what it is worth is what the hold of that sum in a sandbox is worth. -/
noncomputable def Tryd.pinned : Pinned := { name := "ytchphfdoneckeaadoor", sum := "6350eccf3e3421933461d2ecfcbee84efea3f63649f7b0f415b3e2c9816df17a", checked := Tryd.checked }
namespace Rows
def none {H : Type} : Left H := { results := [], args := [] }

/- WHAT THE LISTED PACKAGE-LEVEL VARIABLES READ AS WHEN THE CALL BEGINS. Each datum BY PROGRAM (the guide's laid-datum.mjs) off the statement by which the dump's own 'gosem.cut.vars' lays the variable. In a bare row this is a premise. The card (YtchphfdoneckeaaDoorCards.lean) ties it to the program's text. -/
def laid_pub_streamkeep_pub_natsserver_server_ErrStoreClosed {H : Type} : DataW H := .iface "*errors.errorString" (.ptr (.agg [.lit (.string [115, 116, 111, 114, 101, 32, 105, 115, 32, 99, 108, 111, 115, 101, 100])]))
def laid_pub_streamkeep_pub_natsserver_server_ErrStoreMsgNotFound {H : Type} : DataW H := .iface "*errors.errorString" (.ptr (.agg [.lit (.string [110, 111, 32, 109, 101, 115, 115, 97, 103, 101, 32, 102, 111, 117, 110, 100])]))
def laid_pub_streamkeep_pub_natsserver_server_ErrNoAckPolicy {H : Type} : DataW H := .iface "*errors.errorString" (.ptr (.agg [.lit (.string [97, 99, 107, 32, 112, 111, 108, 105, 99, 121, 32, 105, 115, 32, 110, 111, 110, 101])]))
def laid_pub_streamkeep_pub_natsserver_server_ErrStoreOldUpdate {H : Type} : DataW H := .iface "*errors.errorString" (.ptr (.agg [.lit (.string [111, 108, 100, 32, 117, 112, 100, 97, 116, 101, 32, 105, 103, 110, 111, 114, 101, 100])]))
def laid_pub_streamkeep_pub_natsserver_server_errCorruptState {H : Type} : DataW H := .iface "*errors.errorString" (.ptr (.agg [.lit (.string [99, 111, 114, 114, 117, 112, 116, 32, 115, 116, 97, 116, 101, 32, 102, 105, 108, 101])]))

/-- 'laws.FnConsumerOrder': WHATEVER THE INPUT: true; the input reads as it did. -/
def fnConsumerOrderSpec : ChangeSpec := { name := "fnConsumerOrder", fn := fun _ => fun
  | [d1, d2, d3, d4] => { results := [.lit (.bool true)], args := [d1, d2, d3, d4] }
  | _ => none }
def fnConsumerOrderRow : OpenClaim := { program := "ytchphfdoneckeaadoor", sum := "6350eccf3e3421933461d2ecfcbee84efea3f63649f7b0f415b3e2c9816df17a", func := "pub-streamkeep/laws.FnConsumerOrder", spec := "fnConsumerOrder", inPlace := ["(*internal/sync.Mutex).Lock", "internal/race.Disable", "sync/atomic.CompareAndSwapInt32", "internal/race.Enable", "internal/race.Acquire", "(*internal/sync.Mutex).lockSlow", "internal/sync.runtime_canSpin", "internal/sync.runtime_doSpin", "internal/sync.throw", "internal/sync.runtime_nanotime", "internal/sync.runtime_SemacquireMutex", "sync/atomic.AddInt32", "(*internal/sync.Mutex).Unlock", "internal/race.ReleaseMerge", "(*internal/sync.Mutex).unlockSlow", "internal/sync.fatal", "internal/sync.runtime_Semrelease", "internal/reflectlite.ValueOf", "internal/reflectlite.Swapper", "(internal/reflectlite.Value).Len"], unfollowed := true, recurses := true, named := ["pub-streamkeep/pub/natsserver/server.ErrNoAckPolicy", "pub-streamkeep/pub/natsserver/server.ErrStoreMsgNotFound", "pub-streamkeep/pub/natsserver/server.ErrStoreOldUpdate", "pub-streamkeep/pub/natsserver/server.ErrStoreClosed"], apart := false, laid := [("pub-streamkeep/pub/natsserver/server.ErrStoreClosed", laid_pub_streamkeep_pub_natsserver_server_ErrStoreClosed), ("pub-streamkeep/pub/natsserver/server.ErrStoreMsgNotFound", laid_pub_streamkeep_pub_natsserver_server_ErrStoreMsgNotFound), ("pub-streamkeep/pub/natsserver/server.ErrNoAckPolicy", laid_pub_streamkeep_pub_natsserver_server_ErrNoAckPolicy), ("pub-streamkeep/pub/natsserver/server.ErrStoreOldUpdate", laid_pub_streamkeep_pub_natsserver_server_ErrStoreOldUpdate)] }
def FnConsumerOrderSaid : Prop := fnConsumerOrderRow.holds Tryd.pinned (OpenSpec.ofChange fnConsumerOrderSpec)

/-- ITS FALSE NEIGHBOUR: 'it returns false'. Refute it at one input. -/
def fnConsumerOrderWrong : ChangeSpec := { name := "fnConsumerOrder", fn := fun _ => fun
  | [d1, d2, d3, d4] => { results := [.lit (.bool false)], args := [d1, d2, d3, d4] }
  | _ => none }
def FnConsumerOrderWrongFalsely : Prop := fnConsumerOrderRow.holds Tryd.pinned (OpenSpec.ofChange fnConsumerOrderWrong)

/-- 'laws.FnConsumerTwice': WHATEVER THE INPUT: true; the input reads as it did. -/
def fnConsumerTwiceSpec : ChangeSpec := { name := "fnConsumerTwice", fn := fun _ => fun
  | [d1, d2, d3] => { results := [.lit (.bool true)], args := [d1, d2, d3] }
  | _ => none }
def fnConsumerTwiceRow : OpenClaim := { program := "ytchphfdoneckeaadoor", sum := "6350eccf3e3421933461d2ecfcbee84efea3f63649f7b0f415b3e2c9816df17a", func := "pub-streamkeep/laws.FnConsumerTwice", spec := "fnConsumerTwice", inPlace := ["(*internal/sync.Mutex).Lock", "internal/race.Disable", "sync/atomic.CompareAndSwapInt32", "internal/race.Enable", "internal/race.Acquire", "(*internal/sync.Mutex).lockSlow", "internal/sync.runtime_canSpin", "internal/sync.runtime_doSpin", "internal/sync.throw", "internal/sync.runtime_nanotime", "internal/sync.runtime_SemacquireMutex", "sync/atomic.AddInt32", "(*internal/sync.Mutex).Unlock", "internal/race.ReleaseMerge", "(*internal/sync.Mutex).unlockSlow", "internal/sync.fatal", "internal/sync.runtime_Semrelease", "internal/reflectlite.ValueOf", "internal/reflectlite.Swapper", "(internal/reflectlite.Value).Len"], unfollowed := true, recurses := true, named := ["pub-streamkeep/pub/natsserver/server.ErrNoAckPolicy", "pub-streamkeep/pub/natsserver/server.ErrStoreMsgNotFound", "pub-streamkeep/pub/natsserver/server.ErrStoreOldUpdate", "pub-streamkeep/pub/natsserver/server.ErrStoreClosed"], apart := false, laid := [("pub-streamkeep/pub/natsserver/server.ErrStoreClosed", laid_pub_streamkeep_pub_natsserver_server_ErrStoreClosed), ("pub-streamkeep/pub/natsserver/server.ErrStoreMsgNotFound", laid_pub_streamkeep_pub_natsserver_server_ErrStoreMsgNotFound), ("pub-streamkeep/pub/natsserver/server.ErrNoAckPolicy", laid_pub_streamkeep_pub_natsserver_server_ErrNoAckPolicy), ("pub-streamkeep/pub/natsserver/server.ErrStoreOldUpdate", laid_pub_streamkeep_pub_natsserver_server_ErrStoreOldUpdate)] }
def FnConsumerTwiceSaid : Prop := fnConsumerTwiceRow.holds Tryd.pinned (OpenSpec.ofChange fnConsumerTwiceSpec)

/-- ITS FALSE NEIGHBOUR: 'it returns false'. Refute it at one input. -/
def fnConsumerTwiceWrong : ChangeSpec := { name := "fnConsumerTwice", fn := fun _ => fun
  | [d1, d2, d3] => { results := [.lit (.bool false)], args := [d1, d2, d3] }
  | _ => none }
def FnConsumerTwiceWrongFalsely : Prop := fnConsumerTwiceRow.holds Tryd.pinned (OpenSpec.ofChange fnConsumerTwiceWrong)

/-- 'laws.FnConsumerUpdate': WHATEVER THE INPUT: true; the input reads as it did. -/
def fnConsumerUpdateSpec : ChangeSpec := { name := "fnConsumerUpdate", fn := fun _ => fun
  | [d1, d2] => { results := [.lit (.bool true)], args := [d1, d2] }
  | _ => none }
def fnConsumerUpdateRow : OpenClaim := { program := "ytchphfdoneckeaadoor", sum := "6350eccf3e3421933461d2ecfcbee84efea3f63649f7b0f415b3e2c9816df17a", func := "pub-streamkeep/laws.FnConsumerUpdate", spec := "fnConsumerUpdate", inPlace := ["(*internal/sync.Mutex).Lock", "internal/race.Disable", "sync/atomic.CompareAndSwapInt32", "internal/race.Enable", "internal/race.Acquire", "(*internal/sync.Mutex).lockSlow", "internal/sync.runtime_canSpin", "internal/sync.runtime_doSpin", "internal/sync.throw", "internal/sync.runtime_nanotime", "internal/sync.runtime_SemacquireMutex", "sync/atomic.AddInt32", "(*internal/sync.Mutex).Unlock", "internal/race.ReleaseMerge", "(*internal/sync.Mutex).unlockSlow", "internal/sync.fatal", "internal/sync.runtime_Semrelease", "internal/reflectlite.ValueOf", "internal/reflectlite.Swapper", "(internal/reflectlite.Value).Len"], unfollowed := true, recurses := true, named := ["pub-streamkeep/pub/natsserver/server.ErrNoAckPolicy", "pub-streamkeep/pub/natsserver/server.ErrStoreMsgNotFound", "pub-streamkeep/pub/natsserver/server.ErrStoreOldUpdate", "pub-streamkeep/pub/natsserver/server.ErrStoreClosed"], apart := false, laid := [("pub-streamkeep/pub/natsserver/server.ErrStoreClosed", laid_pub_streamkeep_pub_natsserver_server_ErrStoreClosed), ("pub-streamkeep/pub/natsserver/server.ErrStoreMsgNotFound", laid_pub_streamkeep_pub_natsserver_server_ErrStoreMsgNotFound), ("pub-streamkeep/pub/natsserver/server.ErrNoAckPolicy", laid_pub_streamkeep_pub_natsserver_server_ErrNoAckPolicy), ("pub-streamkeep/pub/natsserver/server.ErrStoreOldUpdate", laid_pub_streamkeep_pub_natsserver_server_ErrStoreOldUpdate)] }
def FnConsumerUpdateSaid : Prop := fnConsumerUpdateRow.holds Tryd.pinned (OpenSpec.ofChange fnConsumerUpdateSpec)

/-- ITS FALSE NEIGHBOUR: 'it returns false'. Refute it at one input. -/
def fnConsumerUpdateWrong : ChangeSpec := { name := "fnConsumerUpdate", fn := fun _ => fun
  | [d1, d2] => { results := [.lit (.bool false)], args := [d1, d2] }
  | _ => none }
def FnConsumerUpdateWrongFalsely : Prop := fnConsumerUpdateRow.holds Tryd.pinned (OpenSpec.ofChange fnConsumerUpdateWrong)

/-- 'laws.FnConsumerBack': WHATEVER THE INPUT: true; the input reads as it did. -/
def fnConsumerBackSpec : ChangeSpec := { name := "fnConsumerBack", fn := fun _ => fun
  | [d] => { results := [.lit (.bool true)], args := [d] }
  | _ => none }
def fnConsumerBackRow : OpenClaim := { program := "ytchphfdoneckeaadoor", sum := "6350eccf3e3421933461d2ecfcbee84efea3f63649f7b0f415b3e2c9816df17a", func := "pub-streamkeep/laws.FnConsumerBack", spec := "fnConsumerBack", inPlace := ["(*internal/sync.Mutex).Lock", "internal/race.Disable", "sync/atomic.CompareAndSwapInt32", "internal/race.Enable", "internal/race.Acquire", "(*internal/sync.Mutex).lockSlow", "internal/sync.runtime_canSpin", "internal/sync.runtime_doSpin", "internal/sync.throw", "internal/sync.runtime_nanotime", "internal/sync.runtime_SemacquireMutex", "sync/atomic.AddInt32", "(*internal/sync.Mutex).Unlock", "internal/race.ReleaseMerge", "(*internal/sync.Mutex).unlockSlow", "internal/sync.fatal", "internal/sync.runtime_Semrelease", "internal/reflectlite.ValueOf", "internal/reflectlite.Swapper", "(internal/reflectlite.Value).Len"], unfollowed := true, recurses := true, named := ["pub-streamkeep/pub/natsserver/server.ErrNoAckPolicy", "pub-streamkeep/pub/natsserver/server.ErrStoreMsgNotFound", "pub-streamkeep/pub/natsserver/server.ErrStoreOldUpdate", "pub-streamkeep/pub/natsserver/server.ErrStoreClosed", "pub-streamkeep/pub/natsserver/server.errCorruptState"], apart := false, laid := [("pub-streamkeep/pub/natsserver/server.errCorruptState", laid_pub_streamkeep_pub_natsserver_server_errCorruptState), ("pub-streamkeep/pub/natsserver/server.ErrStoreClosed", laid_pub_streamkeep_pub_natsserver_server_ErrStoreClosed), ("pub-streamkeep/pub/natsserver/server.ErrStoreMsgNotFound", laid_pub_streamkeep_pub_natsserver_server_ErrStoreMsgNotFound), ("pub-streamkeep/pub/natsserver/server.ErrNoAckPolicy", laid_pub_streamkeep_pub_natsserver_server_ErrNoAckPolicy), ("pub-streamkeep/pub/natsserver/server.ErrStoreOldUpdate", laid_pub_streamkeep_pub_natsserver_server_ErrStoreOldUpdate)] }
def FnConsumerBackSaid : Prop := fnConsumerBackRow.holds Tryd.pinned (OpenSpec.ofChange fnConsumerBackSpec)

/-- ITS FALSE NEIGHBOUR: 'it returns false'. Refute it at one input. -/
def fnConsumerBackWrong : ChangeSpec := { name := "fnConsumerBack", fn := fun _ => fun
  | [d] => { results := [.lit (.bool false)], args := [d] }
  | _ => none }
def FnConsumerBackWrongFalsely : Prop := fnConsumerBackRow.holds Tryd.pinned (OpenSpec.ofChange fnConsumerBackWrong)

/- THE SECOND FORM. 'bulk': how many values and letters a reading holds, each counted each time it is reached (what is shared counts as often as it is met; a slice's spare places count too). A statement '..UptoSaid' is the law's where the arguments, and the package variables that the reading takes, are together of bulk at most 1048576: NARROWER than '..Said'. Prove '..Said' where nothing that the law and all that it calls make is longer than what came in: it says more and counts as full. Else prove '..UptoSaid'. A law counts once. -/
mutual
def uptoBulk {H : Type} : DataW H → Nat
  | .lit (.string bytes) => bytes.length + 1
  | .lit _ => 1
  | .nil => 1
  | .ptr d => uptoBulk d + 1
  | .slice elems spare => uptoBulkAll elems + uptoBulkAll spare + 1
  | .agg parts => uptoBulkAll parts + 1
  | .iface _ d => uptoBulk d + 1
  | .map entries => uptoBulkEntries entries + 1
  | .held _ => 1
def uptoBulkAll {H : Type} : List (DataW H) → Nat
  | [] => 0
  | d :: r => uptoBulk d + uptoBulkAll r
def uptoBulkEntries {H : Type} : List (Lit × DataW H) → Nat
  | [] => 0
  | x :: r => uptoBulkEntry x + uptoBulkEntries r
def uptoBulkEntry {H : Type} : Lit × DataW H → Nat
  | (.string bytes, d) => bytes.length + uptoBulk d + 1
  | (_, d) => uptoBulk d + 1
 end
def uptoSmall : (H : Type) → List (DataW H) → Bool := fun _ ds => decide (uptoBulkAll ds ≤ 1048576)
def OpenSpec.upto (s : _root_.Go.ChangeSpec) : _root_.Go.OpenSpec := { _root_.Go.OpenSpec.ofChange s with cond := some uptoSmall }

/-- 'laws.FnConsumerOrder', WHERE WHAT IT READS IS OF BULK AT MOST 1048576: true; the input reads as it did. -/
def fnConsumerOrderUptoRow : OpenClaim := { program := "ytchphfdoneckeaadoor", sum := "6350eccf3e3421933461d2ecfcbee84efea3f63649f7b0f415b3e2c9816df17a", func := "pub-streamkeep/laws.FnConsumerOrder", spec := "fnConsumerOrder", inPlace := ["(*internal/sync.Mutex).Lock", "internal/race.Disable", "sync/atomic.CompareAndSwapInt32", "internal/race.Enable", "internal/race.Acquire", "(*internal/sync.Mutex).lockSlow", "internal/sync.runtime_canSpin", "internal/sync.runtime_doSpin", "internal/sync.throw", "internal/sync.runtime_nanotime", "internal/sync.runtime_SemacquireMutex", "sync/atomic.AddInt32", "(*internal/sync.Mutex).Unlock", "internal/race.ReleaseMerge", "(*internal/sync.Mutex).unlockSlow", "internal/sync.fatal", "internal/sync.runtime_Semrelease", "internal/reflectlite.ValueOf", "internal/reflectlite.Swapper", "(internal/reflectlite.Value).Len"], unfollowed := true, recurses := true, named := ["pub-streamkeep/pub/natsserver/server.ErrNoAckPolicy", "pub-streamkeep/pub/natsserver/server.ErrStoreMsgNotFound", "pub-streamkeep/pub/natsserver/server.ErrStoreOldUpdate", "pub-streamkeep/pub/natsserver/server.ErrStoreClosed"], apart := false, laid := [("pub-streamkeep/pub/natsserver/server.ErrStoreClosed", laid_pub_streamkeep_pub_natsserver_server_ErrStoreClosed), ("pub-streamkeep/pub/natsserver/server.ErrStoreMsgNotFound", laid_pub_streamkeep_pub_natsserver_server_ErrStoreMsgNotFound), ("pub-streamkeep/pub/natsserver/server.ErrNoAckPolicy", laid_pub_streamkeep_pub_natsserver_server_ErrNoAckPolicy), ("pub-streamkeep/pub/natsserver/server.ErrStoreOldUpdate", laid_pub_streamkeep_pub_natsserver_server_ErrStoreOldUpdate)], narrowed := true }
def FnConsumerOrderUptoSaid : Prop := fnConsumerOrderUptoRow.holds Tryd.pinned (OpenSpec.upto fnConsumerOrderSpec)

/-- 'laws.FnConsumerTwice', WHERE WHAT IT READS IS OF BULK AT MOST 1048576: true; the input reads as it did. -/
def fnConsumerTwiceUptoRow : OpenClaim := { program := "ytchphfdoneckeaadoor", sum := "6350eccf3e3421933461d2ecfcbee84efea3f63649f7b0f415b3e2c9816df17a", func := "pub-streamkeep/laws.FnConsumerTwice", spec := "fnConsumerTwice", inPlace := ["(*internal/sync.Mutex).Lock", "internal/race.Disable", "sync/atomic.CompareAndSwapInt32", "internal/race.Enable", "internal/race.Acquire", "(*internal/sync.Mutex).lockSlow", "internal/sync.runtime_canSpin", "internal/sync.runtime_doSpin", "internal/sync.throw", "internal/sync.runtime_nanotime", "internal/sync.runtime_SemacquireMutex", "sync/atomic.AddInt32", "(*internal/sync.Mutex).Unlock", "internal/race.ReleaseMerge", "(*internal/sync.Mutex).unlockSlow", "internal/sync.fatal", "internal/sync.runtime_Semrelease", "internal/reflectlite.ValueOf", "internal/reflectlite.Swapper", "(internal/reflectlite.Value).Len"], unfollowed := true, recurses := true, named := ["pub-streamkeep/pub/natsserver/server.ErrNoAckPolicy", "pub-streamkeep/pub/natsserver/server.ErrStoreMsgNotFound", "pub-streamkeep/pub/natsserver/server.ErrStoreOldUpdate", "pub-streamkeep/pub/natsserver/server.ErrStoreClosed"], apart := false, laid := [("pub-streamkeep/pub/natsserver/server.ErrStoreClosed", laid_pub_streamkeep_pub_natsserver_server_ErrStoreClosed), ("pub-streamkeep/pub/natsserver/server.ErrStoreMsgNotFound", laid_pub_streamkeep_pub_natsserver_server_ErrStoreMsgNotFound), ("pub-streamkeep/pub/natsserver/server.ErrNoAckPolicy", laid_pub_streamkeep_pub_natsserver_server_ErrNoAckPolicy), ("pub-streamkeep/pub/natsserver/server.ErrStoreOldUpdate", laid_pub_streamkeep_pub_natsserver_server_ErrStoreOldUpdate)], narrowed := true }
def FnConsumerTwiceUptoSaid : Prop := fnConsumerTwiceUptoRow.holds Tryd.pinned (OpenSpec.upto fnConsumerTwiceSpec)

/-- 'laws.FnConsumerUpdate', WHERE WHAT IT READS IS OF BULK AT MOST 1048576: true; the input reads as it did. -/
def fnConsumerUpdateUptoRow : OpenClaim := { program := "ytchphfdoneckeaadoor", sum := "6350eccf3e3421933461d2ecfcbee84efea3f63649f7b0f415b3e2c9816df17a", func := "pub-streamkeep/laws.FnConsumerUpdate", spec := "fnConsumerUpdate", inPlace := ["(*internal/sync.Mutex).Lock", "internal/race.Disable", "sync/atomic.CompareAndSwapInt32", "internal/race.Enable", "internal/race.Acquire", "(*internal/sync.Mutex).lockSlow", "internal/sync.runtime_canSpin", "internal/sync.runtime_doSpin", "internal/sync.throw", "internal/sync.runtime_nanotime", "internal/sync.runtime_SemacquireMutex", "sync/atomic.AddInt32", "(*internal/sync.Mutex).Unlock", "internal/race.ReleaseMerge", "(*internal/sync.Mutex).unlockSlow", "internal/sync.fatal", "internal/sync.runtime_Semrelease", "internal/reflectlite.ValueOf", "internal/reflectlite.Swapper", "(internal/reflectlite.Value).Len"], unfollowed := true, recurses := true, named := ["pub-streamkeep/pub/natsserver/server.ErrNoAckPolicy", "pub-streamkeep/pub/natsserver/server.ErrStoreMsgNotFound", "pub-streamkeep/pub/natsserver/server.ErrStoreOldUpdate", "pub-streamkeep/pub/natsserver/server.ErrStoreClosed"], apart := false, laid := [("pub-streamkeep/pub/natsserver/server.ErrStoreClosed", laid_pub_streamkeep_pub_natsserver_server_ErrStoreClosed), ("pub-streamkeep/pub/natsserver/server.ErrStoreMsgNotFound", laid_pub_streamkeep_pub_natsserver_server_ErrStoreMsgNotFound), ("pub-streamkeep/pub/natsserver/server.ErrNoAckPolicy", laid_pub_streamkeep_pub_natsserver_server_ErrNoAckPolicy), ("pub-streamkeep/pub/natsserver/server.ErrStoreOldUpdate", laid_pub_streamkeep_pub_natsserver_server_ErrStoreOldUpdate)], narrowed := true }
def FnConsumerUpdateUptoSaid : Prop := fnConsumerUpdateUptoRow.holds Tryd.pinned (OpenSpec.upto fnConsumerUpdateSpec)

/-- 'laws.FnConsumerBack', WHERE WHAT IT READS IS OF BULK AT MOST 1048576: true; the input reads as it did. -/
def fnConsumerBackUptoRow : OpenClaim := { program := "ytchphfdoneckeaadoor", sum := "6350eccf3e3421933461d2ecfcbee84efea3f63649f7b0f415b3e2c9816df17a", func := "pub-streamkeep/laws.FnConsumerBack", spec := "fnConsumerBack", inPlace := ["(*internal/sync.Mutex).Lock", "internal/race.Disable", "sync/atomic.CompareAndSwapInt32", "internal/race.Enable", "internal/race.Acquire", "(*internal/sync.Mutex).lockSlow", "internal/sync.runtime_canSpin", "internal/sync.runtime_doSpin", "internal/sync.throw", "internal/sync.runtime_nanotime", "internal/sync.runtime_SemacquireMutex", "sync/atomic.AddInt32", "(*internal/sync.Mutex).Unlock", "internal/race.ReleaseMerge", "(*internal/sync.Mutex).unlockSlow", "internal/sync.fatal", "internal/sync.runtime_Semrelease", "internal/reflectlite.ValueOf", "internal/reflectlite.Swapper", "(internal/reflectlite.Value).Len"], unfollowed := true, recurses := true, named := ["pub-streamkeep/pub/natsserver/server.ErrNoAckPolicy", "pub-streamkeep/pub/natsserver/server.ErrStoreMsgNotFound", "pub-streamkeep/pub/natsserver/server.ErrStoreOldUpdate", "pub-streamkeep/pub/natsserver/server.ErrStoreClosed", "pub-streamkeep/pub/natsserver/server.errCorruptState"], apart := false, laid := [("pub-streamkeep/pub/natsserver/server.errCorruptState", laid_pub_streamkeep_pub_natsserver_server_errCorruptState), ("pub-streamkeep/pub/natsserver/server.ErrStoreClosed", laid_pub_streamkeep_pub_natsserver_server_ErrStoreClosed), ("pub-streamkeep/pub/natsserver/server.ErrStoreMsgNotFound", laid_pub_streamkeep_pub_natsserver_server_ErrStoreMsgNotFound), ("pub-streamkeep/pub/natsserver/server.ErrNoAckPolicy", laid_pub_streamkeep_pub_natsserver_server_ErrNoAckPolicy), ("pub-streamkeep/pub/natsserver/server.ErrStoreOldUpdate", laid_pub_streamkeep_pub_natsserver_server_ErrStoreOldUpdate)], narrowed := true }
def FnConsumerBackUptoSaid : Prop := fnConsumerBackUptoRow.holds Tryd.pinned (OpenSpec.upto fnConsumerBackSpec)

end Rows
end Go.Proofs.YtchphfdoneckeaaDoor
