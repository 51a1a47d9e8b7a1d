/-
  NARROWER THAN 'FOR EVERY INPUT', by the rows' own cells (each row's printed sentence says how): FnConsumer: laid · FnConsumerAll: laid · FnConsumerNone: laid · FnConsumerReset: laid.
  DERIVED. THE GIVEN ROWS OF THIS SEAT. 4 by the template 'for every input the law returns true; each argument reads behind the call as it read before'; 0 by the template 'total and deterministic' (their statements: YtpbhblppehkifaaDoorTotals.lean).
  GIVEN WITH THE SEED: the statements are not yours to turn. If you find one false, say at which input.
  Laid BY PROGRAM, IN A SANDBOX (cutbox-rows.mjs): the forced cells as the released guide's own fill.sh prints them over the translation ba0be9c54c858a22… (all of the seat's roots in one cut). By AI agents, Wed Nov 11 2026. No macro, syntax, notation, axiom, sorry.
-/
import Derived.Test.YtpbhblppehkifaaDoorChecked
import GoSem.Claim
import GoSem.ClaimJoined
import GoSem.ClaimMapViews
import Derived.JoinedTies
import Derived.KernelRfl
namespace Go.Proofs.YtpbhblppehkifaaDoor
/- THE CELL 'sum', in the pinned program and in every row, IS THE sha256 OF THE DUMP (.gsa) THAT YtpbhblppehkifaaDoorProg.lean LOADS. Nothing in Lean hashes anything: it is a label: what it is worth is what the hold of that sum in a sandbox is worth. -/
noncomputable def Tryd.pinned : Pinned := { name := "ytpbhblppehkifaadoor", sum := "ba0be9c54c858a220a8d9f53eb9ce92794e3464033f7eb146be4acb67a715031", checked := Tryd.checked }
namespace Rows
def none {H : Type} : Left H := { results := [], args := [] }

/- WHAT THE LISTED PACKAGE-LEVEL VARIABLES READ AS WHEN THE CALL BEGINS. Each datum BY PROGRAM (the guide's laid-datum.mjs) off the statement by which the dump's own 'gosem.cut.vars' lays the variable. In a bare row this is a premise. The card (YtpbhblppehkifaaDoorCards.lean) ties it to the program's text. -/
def laid_pub_streamkeep_pub_natsserver_server_ErrStoreClosed {H : Type} : DataW H := .iface "*errors.errorString" (.ptr (.agg [.lit (.string [115, 116, 111, 114, 101, 32, 105, 115, 32, 99, 108, 111, 115, 101, 100])]))
def laid_pub_streamkeep_pub_natsserver_server_ErrStoreMsgNotFound {H : Type} : DataW H := .iface "*errors.errorString" (.ptr (.agg [.lit (.string [110, 111, 32, 109, 101, 115, 115, 97, 103, 101, 32, 102, 111, 117, 110, 100])]))
def laid_pub_streamkeep_pub_natsserver_server_ErrNoAckPolicy {H : Type} : DataW H := .iface "*errors.errorString" (.ptr (.agg [.lit (.string [97, 99, 107, 32, 112, 111, 108, 105, 99, 121, 32, 105, 115, 32, 110, 111, 110, 101])]))
def laid_pub_streamkeep_pub_natsserver_server_ErrStoreOldUpdate {H : Type} : DataW H := .iface "*errors.errorString" (.ptr (.agg [.lit (.string [111, 108, 100, 32, 117, 112, 100, 97, 116, 101, 32, 105, 103, 110, 111, 114, 101, 100])]))

/-- 'laws.FnConsumer': WHATEVER THE INPUT: true; the input reads as it did. -/
def fnConsumerSpec : ChangeSpec := { name := "fnConsumer", fn := fun _ => fun
  | [d1, d2] => { results := [.lit (.bool true)], args := [d1, d2] }
  | _ => none }
def fnConsumerRow : OpenClaim := { program := "ytpbhblppehkifaadoor", sum := "ba0be9c54c858a220a8d9f53eb9ce92794e3464033f7eb146be4acb67a715031", func := "pub-streamkeep/laws.FnConsumer", spec := "fnConsumer", inPlace := ["(*internal/sync.Mutex).Lock", "internal/race.Disable", "sync/atomic.CompareAndSwapInt32", "internal/race.Enable", "internal/race.Acquire", "(*internal/sync.Mutex).lockSlow", "internal/sync.runtime_canSpin", "internal/sync.runtime_doSpin", "internal/sync.throw", "internal/sync.runtime_nanotime", "internal/sync.runtime_SemacquireMutex", "sync/atomic.AddInt32", "(*internal/sync.Mutex).Unlock", "internal/race.ReleaseMerge", "(*internal/sync.Mutex).unlockSlow", "internal/sync.fatal", "internal/sync.runtime_Semrelease", "internal/reflectlite.ValueOf", "internal/reflectlite.Swapper", "(internal/reflectlite.Value).Len"], unfollowed := true, recurses := true, named := ["pub-streamkeep/pub/natsserver/server.ErrNoAckPolicy", "pub-streamkeep/pub/natsserver/server.ErrStoreMsgNotFound", "pub-streamkeep/pub/natsserver/server.ErrStoreOldUpdate", "pub-streamkeep/pub/natsserver/server.ErrStoreClosed"], apart := false, laid := [("pub-streamkeep/pub/natsserver/server.ErrStoreClosed", laid_pub_streamkeep_pub_natsserver_server_ErrStoreClosed), ("pub-streamkeep/pub/natsserver/server.ErrStoreMsgNotFound", laid_pub_streamkeep_pub_natsserver_server_ErrStoreMsgNotFound), ("pub-streamkeep/pub/natsserver/server.ErrNoAckPolicy", laid_pub_streamkeep_pub_natsserver_server_ErrNoAckPolicy), ("pub-streamkeep/pub/natsserver/server.ErrStoreOldUpdate", laid_pub_streamkeep_pub_natsserver_server_ErrStoreOldUpdate)] }
def FnConsumerSaid : Prop := fnConsumerRow.holds Tryd.pinned (OpenSpec.ofChange fnConsumerSpec)

/-- ITS FALSE NEIGHBOUR: 'it returns false'. Refute it at one input. -/
def fnConsumerWrong : ChangeSpec := { name := "fnConsumer", fn := fun _ => fun
  | [d1, d2] => { results := [.lit (.bool false)], args := [d1, d2] }
  | _ => none }
def FnConsumerWrongFalsely : Prop := fnConsumerRow.holds Tryd.pinned (OpenSpec.ofChange fnConsumerWrong)

/-- 'laws.FnConsumerAll': WHATEVER THE INPUT: true; the input reads as it did. -/
def fnConsumerAllSpec : ChangeSpec := { name := "fnConsumerAll", fn := fun _ => fun
  | [d1, d2, d3] => { results := [.lit (.bool true)], args := [d1, d2, d3] }
  | _ => none }
def fnConsumerAllRow : OpenClaim := { program := "ytpbhblppehkifaadoor", sum := "ba0be9c54c858a220a8d9f53eb9ce92794e3464033f7eb146be4acb67a715031", func := "pub-streamkeep/laws.FnConsumerAll", spec := "fnConsumerAll", inPlace := ["(*internal/sync.Mutex).Lock", "internal/race.Disable", "sync/atomic.CompareAndSwapInt32", "internal/race.Enable", "internal/race.Acquire", "(*internal/sync.Mutex).lockSlow", "internal/sync.runtime_canSpin", "internal/sync.runtime_doSpin", "internal/sync.throw", "internal/sync.runtime_nanotime", "internal/sync.runtime_SemacquireMutex", "sync/atomic.AddInt32", "(*internal/sync.Mutex).Unlock", "internal/race.ReleaseMerge", "(*internal/sync.Mutex).unlockSlow", "internal/sync.fatal", "internal/sync.runtime_Semrelease", "internal/reflectlite.ValueOf", "internal/reflectlite.Swapper", "(internal/reflectlite.Value).Len"], unfollowed := true, recurses := true, named := ["pub-streamkeep/pub/natsserver/server.ErrNoAckPolicy", "pub-streamkeep/pub/natsserver/server.ErrStoreMsgNotFound", "pub-streamkeep/pub/natsserver/server.ErrStoreOldUpdate", "pub-streamkeep/pub/natsserver/server.ErrStoreClosed"], apart := false, laid := [("pub-streamkeep/pub/natsserver/server.ErrStoreClosed", laid_pub_streamkeep_pub_natsserver_server_ErrStoreClosed), ("pub-streamkeep/pub/natsserver/server.ErrStoreMsgNotFound", laid_pub_streamkeep_pub_natsserver_server_ErrStoreMsgNotFound), ("pub-streamkeep/pub/natsserver/server.ErrNoAckPolicy", laid_pub_streamkeep_pub_natsserver_server_ErrNoAckPolicy), ("pub-streamkeep/pub/natsserver/server.ErrStoreOldUpdate", laid_pub_streamkeep_pub_natsserver_server_ErrStoreOldUpdate)] }
def FnConsumerAllSaid : Prop := fnConsumerAllRow.holds Tryd.pinned (OpenSpec.ofChange fnConsumerAllSpec)

/-- ITS FALSE NEIGHBOUR: 'it returns false'. Refute it at one input. -/
def fnConsumerAllWrong : ChangeSpec := { name := "fnConsumerAll", fn := fun _ => fun
  | [d1, d2, d3] => { results := [.lit (.bool false)], args := [d1, d2, d3] }
  | _ => none }
def FnConsumerAllWrongFalsely : Prop := fnConsumerAllRow.holds Tryd.pinned (OpenSpec.ofChange fnConsumerAllWrong)

/-- 'laws.FnConsumerNone': WHATEVER THE INPUT: true; the input reads as it did. -/
def fnConsumerNoneSpec : ChangeSpec := { name := "fnConsumerNone", fn := fun _ => fun
  | [d] => { results := [.lit (.bool true)], args := [d] }
  | _ => none }
def fnConsumerNoneRow : OpenClaim := { program := "ytpbhblppehkifaadoor", sum := "ba0be9c54c858a220a8d9f53eb9ce92794e3464033f7eb146be4acb67a715031", func := "pub-streamkeep/laws.FnConsumerNone", spec := "fnConsumerNone", inPlace := ["(*internal/sync.Mutex).Lock", "internal/race.Disable", "sync/atomic.CompareAndSwapInt32", "internal/race.Enable", "internal/race.Acquire", "(*internal/sync.Mutex).lockSlow", "internal/sync.runtime_canSpin", "internal/sync.runtime_doSpin", "internal/sync.throw", "internal/sync.runtime_nanotime", "internal/sync.runtime_SemacquireMutex", "sync/atomic.AddInt32", "(*internal/sync.Mutex).Unlock", "internal/race.ReleaseMerge", "(*internal/sync.Mutex).unlockSlow", "internal/sync.fatal", "internal/sync.runtime_Semrelease", "internal/reflectlite.ValueOf", "internal/reflectlite.Swapper", "(internal/reflectlite.Value).Len"], unfollowed := true, recurses := true, named := ["pub-streamkeep/pub/natsserver/server.ErrNoAckPolicy", "pub-streamkeep/pub/natsserver/server.ErrStoreMsgNotFound", "pub-streamkeep/pub/natsserver/server.ErrStoreOldUpdate", "pub-streamkeep/pub/natsserver/server.ErrStoreClosed"], apart := false, laid := [("pub-streamkeep/pub/natsserver/server.ErrStoreClosed", laid_pub_streamkeep_pub_natsserver_server_ErrStoreClosed), ("pub-streamkeep/pub/natsserver/server.ErrStoreMsgNotFound", laid_pub_streamkeep_pub_natsserver_server_ErrStoreMsgNotFound), ("pub-streamkeep/pub/natsserver/server.ErrNoAckPolicy", laid_pub_streamkeep_pub_natsserver_server_ErrNoAckPolicy), ("pub-streamkeep/pub/natsserver/server.ErrStoreOldUpdate", laid_pub_streamkeep_pub_natsserver_server_ErrStoreOldUpdate)] }
def FnConsumerNoneSaid : Prop := fnConsumerNoneRow.holds Tryd.pinned (OpenSpec.ofChange fnConsumerNoneSpec)

/-- ITS FALSE NEIGHBOUR: 'it returns false'. Refute it at one input. -/
def fnConsumerNoneWrong : ChangeSpec := { name := "fnConsumerNone", fn := fun _ => fun
  | [d] => { results := [.lit (.bool false)], args := [d] }
  | _ => none }
def FnConsumerNoneWrongFalsely : Prop := fnConsumerNoneRow.holds Tryd.pinned (OpenSpec.ofChange fnConsumerNoneWrong)

/-- 'laws.FnConsumerReset': WHATEVER THE INPUT: true; the input reads as it did. -/
def fnConsumerResetSpec : ChangeSpec := { name := "fnConsumerReset", fn := fun _ => fun
  | [d1, d2, d3] => { results := [.lit (.bool true)], args := [d1, d2, d3] }
  | _ => none }
def fnConsumerResetRow : OpenClaim := { program := "ytpbhblppehkifaadoor", sum := "ba0be9c54c858a220a8d9f53eb9ce92794e3464033f7eb146be4acb67a715031", func := "pub-streamkeep/laws.FnConsumerReset", spec := "fnConsumerReset", inPlace := ["(*internal/sync.Mutex).Lock", "internal/race.Disable", "sync/atomic.CompareAndSwapInt32", "internal/race.Enable", "internal/race.Acquire", "(*internal/sync.Mutex).lockSlow", "internal/sync.runtime_canSpin", "internal/sync.runtime_doSpin", "internal/sync.throw", "internal/sync.runtime_nanotime", "internal/sync.runtime_SemacquireMutex", "sync/atomic.AddInt32", "(*internal/sync.Mutex).Unlock", "internal/race.ReleaseMerge", "(*internal/sync.Mutex).unlockSlow", "internal/sync.fatal", "internal/sync.runtime_Semrelease", "internal/reflectlite.ValueOf", "internal/reflectlite.Swapper", "(internal/reflectlite.Value).Len"], unfollowed := true, recurses := true, named := ["pub-streamkeep/pub/natsserver/server.ErrNoAckPolicy", "pub-streamkeep/pub/natsserver/server.ErrStoreMsgNotFound", "pub-streamkeep/pub/natsserver/server.ErrStoreOldUpdate", "pub-streamkeep/pub/natsserver/server.ErrStoreClosed"], apart := false, laid := [("pub-streamkeep/pub/natsserver/server.ErrStoreClosed", laid_pub_streamkeep_pub_natsserver_server_ErrStoreClosed), ("pub-streamkeep/pub/natsserver/server.ErrStoreMsgNotFound", laid_pub_streamkeep_pub_natsserver_server_ErrStoreMsgNotFound), ("pub-streamkeep/pub/natsserver/server.ErrNoAckPolicy", laid_pub_streamkeep_pub_natsserver_server_ErrNoAckPolicy), ("pub-streamkeep/pub/natsserver/server.ErrStoreOldUpdate", laid_pub_streamkeep_pub_natsserver_server_ErrStoreOldUpdate)] }
def FnConsumerResetSaid : Prop := fnConsumerResetRow.holds Tryd.pinned (OpenSpec.ofChange fnConsumerResetSpec)

/-- ITS FALSE NEIGHBOUR: 'it returns false'. Refute it at one input. -/
def fnConsumerResetWrong : ChangeSpec := { name := "fnConsumerReset", fn := fun _ => fun
  | [d1, d2, d3] => { results := [.lit (.bool false)], args := [d1, d2, d3] }
  | _ => none }
def FnConsumerResetWrongFalsely : Prop := fnConsumerResetRow.holds Tryd.pinned (OpenSpec.ofChange fnConsumerResetWrong)

/- THE SECOND FORM. 'bulk': how many values and letters a reading holds, each counted each time it is reached (what is shared counts as often as it is met; a slice's spare places count too). A statement '..UptoSaid' is the law's where the arguments, and the package variables that the reading takes, are together of bulk at most 1048576: NARROWER than '..Said'. Prove '..Said' where nothing that the law and all that it calls make is longer than what came in: it says more and counts as full. Else prove '..UptoSaid'. A law counts once. -/
mutual
def uptoBulk {H : Type} : DataW H → Nat
  | .lit (.string bytes) => bytes.length + 1
  | .lit _ => 1
  | .nil => 1
  | .ptr d => uptoBulk d + 1
  | .slice elems spare => uptoBulkAll elems + uptoBulkAll spare + 1
  | .agg parts => uptoBulkAll parts + 1
  | .iface _ d => uptoBulk d + 1
  | .map entries => uptoBulkEntries entries + 1
  | .held _ => 1
def uptoBulkAll {H : Type} : List (DataW H) → Nat
  | [] => 0
  | d :: r => uptoBulk d + uptoBulkAll r
def uptoBulkEntries {H : Type} : List (Lit × DataW H) → Nat
  | [] => 0
  | x :: r => uptoBulkEntry x + uptoBulkEntries r
def uptoBulkEntry {H : Type} : Lit × DataW H → Nat
  | (.string bytes, d) => bytes.length + uptoBulk d + 1
  | (_, d) => uptoBulk d + 1
 end
def uptoSmall : (H : Type) → List (DataW H) → Bool := fun _ ds => decide (uptoBulkAll ds ≤ 1048576)
def OpenSpec.upto (s : _root_.Go.ChangeSpec) : _root_.Go.OpenSpec := { _root_.Go.OpenSpec.ofChange s with cond := some uptoSmall }

/-- 'laws.FnConsumer', WHERE WHAT IT READS IS OF BULK AT MOST 1048576: true; the input reads as it did. -/
def fnConsumerUptoRow : OpenClaim := { program := "ytpbhblppehkifaadoor", sum := "ba0be9c54c858a220a8d9f53eb9ce92794e3464033f7eb146be4acb67a715031", func := "pub-streamkeep/laws.FnConsumer", spec := "fnConsumer", inPlace := ["(*internal/sync.Mutex).Lock", "internal/race.Disable", "sync/atomic.CompareAndSwapInt32", "internal/race.Enable", "internal/race.Acquire", "(*internal/sync.Mutex).lockSlow", "internal/sync.runtime_canSpin", "internal/sync.runtime_doSpin", "internal/sync.throw", "internal/sync.runtime_nanotime", "internal/sync.runtime_SemacquireMutex", "sync/atomic.AddInt32", "(*internal/sync.Mutex).Unlock", "internal/race.ReleaseMerge", "(*internal/sync.Mutex).unlockSlow", "internal/sync.fatal", "internal/sync.runtime_Semrelease", "internal/reflectlite.ValueOf", "internal/reflectlite.Swapper", "(internal/reflectlite.Value).Len"], unfollowed := true, recurses := true, named := ["pub-streamkeep/pub/natsserver/server.ErrNoAckPolicy", "pub-streamkeep/pub/natsserver/server.ErrStoreMsgNotFound", "pub-streamkeep/pub/natsserver/server.ErrStoreOldUpdate", "pub-streamkeep/pub/natsserver/server.ErrStoreClosed"], apart := false, laid := [("pub-streamkeep/pub/natsserver/server.ErrStoreClosed", laid_pub_streamkeep_pub_natsserver_server_ErrStoreClosed), ("pub-streamkeep/pub/natsserver/server.ErrStoreMsgNotFound", laid_pub_streamkeep_pub_natsserver_server_ErrStoreMsgNotFound), ("pub-streamkeep/pub/natsserver/server.ErrNoAckPolicy", laid_pub_streamkeep_pub_natsserver_server_ErrNoAckPolicy), ("pub-streamkeep/pub/natsserver/server.ErrStoreOldUpdate", laid_pub_streamkeep_pub_natsserver_server_ErrStoreOldUpdate)], narrowed := true }
def FnConsumerUptoSaid : Prop := fnConsumerUptoRow.holds Tryd.pinned (OpenSpec.upto fnConsumerSpec)

/-- 'laws.FnConsumerAll', WHERE WHAT IT READS IS OF BULK AT MOST 1048576: true; the input reads as it did. -/
def fnConsumerAllUptoRow : OpenClaim := { program := "ytpbhblppehkifaadoor", sum := "ba0be9c54c858a220a8d9f53eb9ce92794e3464033f7eb146be4acb67a715031", func := "pub-streamkeep/laws.FnConsumerAll", spec := "fnConsumerAll", inPlace := ["(*internal/sync.Mutex).Lock", "internal/race.Disable", "sync/atomic.CompareAndSwapInt32", "internal/race.Enable", "internal/race.Acquire", "(*internal/sync.Mutex).lockSlow", "internal/sync.runtime_canSpin", "internal/sync.runtime_doSpin", "internal/sync.throw", "internal/sync.runtime_nanotime", "internal/sync.runtime_SemacquireMutex", "sync/atomic.AddInt32", "(*internal/sync.Mutex).Unlock", "internal/race.ReleaseMerge", "(*internal/sync.Mutex).unlockSlow", "internal/sync.fatal", "internal/sync.runtime_Semrelease", "internal/reflectlite.ValueOf", "internal/reflectlite.Swapper", "(internal/reflectlite.Value).Len"], unfollowed := true, recurses := true, named := ["pub-streamkeep/pub/natsserver/server.ErrNoAckPolicy", "pub-streamkeep/pub/natsserver/server.ErrStoreMsgNotFound", "pub-streamkeep/pub/natsserver/server.ErrStoreOldUpdate", "pub-streamkeep/pub/natsserver/server.ErrStoreClosed"], apart := false, laid := [("pub-streamkeep/pub/natsserver/server.ErrStoreClosed", laid_pub_streamkeep_pub_natsserver_server_ErrStoreClosed), ("pub-streamkeep/pub/natsserver/server.ErrStoreMsgNotFound", laid_pub_streamkeep_pub_natsserver_server_ErrStoreMsgNotFound), ("pub-streamkeep/pub/natsserver/server.ErrNoAckPolicy", laid_pub_streamkeep_pub_natsserver_server_ErrNoAckPolicy), ("pub-streamkeep/pub/natsserver/server.ErrStoreOldUpdate", laid_pub_streamkeep_pub_natsserver_server_ErrStoreOldUpdate)], narrowed := true }
def FnConsumerAllUptoSaid : Prop := fnConsumerAllUptoRow.holds Tryd.pinned (OpenSpec.upto fnConsumerAllSpec)

/-- 'laws.FnConsumerNone', WHERE WHAT IT READS IS OF BULK AT MOST 1048576: true; the input reads as it did. -/
def fnConsumerNoneUptoRow : OpenClaim := { program := "ytpbhblppehkifaadoor", sum := "ba0be9c54c858a220a8d9f53eb9ce92794e3464033f7eb146be4acb67a715031", func := "pub-streamkeep/laws.FnConsumerNone", spec := "fnConsumerNone", inPlace := ["(*internal/sync.Mutex).Lock", "internal/race.Disable", "sync/atomic.CompareAndSwapInt32", "internal/race.Enable", "internal/race.Acquire", "(*internal/sync.Mutex).lockSlow", "internal/sync.runtime_canSpin", "internal/sync.runtime_doSpin", "internal/sync.throw", "internal/sync.runtime_nanotime", "internal/sync.runtime_SemacquireMutex", "sync/atomic.AddInt32", "(*internal/sync.Mutex).Unlock", "internal/race.ReleaseMerge", "(*internal/sync.Mutex).unlockSlow", "internal/sync.fatal", "internal/sync.runtime_Semrelease", "internal/reflectlite.ValueOf", "internal/reflectlite.Swapper", "(internal/reflectlite.Value).Len"], unfollowed := true, recurses := true, named := ["pub-streamkeep/pub/natsserver/server.ErrNoAckPolicy", "pub-streamkeep/pub/natsserver/server.ErrStoreMsgNotFound", "pub-streamkeep/pub/natsserver/server.ErrStoreOldUpdate", "pub-streamkeep/pub/natsserver/server.ErrStoreClosed"], apart := false, laid := [("pub-streamkeep/pub/natsserver/server.ErrStoreClosed", laid_pub_streamkeep_pub_natsserver_server_ErrStoreClosed), ("pub-streamkeep/pub/natsserver/server.ErrStoreMsgNotFound", laid_pub_streamkeep_pub_natsserver_server_ErrStoreMsgNotFound), ("pub-streamkeep/pub/natsserver/server.ErrNoAckPolicy", laid_pub_streamkeep_pub_natsserver_server_ErrNoAckPolicy), ("pub-streamkeep/pub/natsserver/server.ErrStoreOldUpdate", laid_pub_streamkeep_pub_natsserver_server_ErrStoreOldUpdate)], narrowed := true }
def FnConsumerNoneUptoSaid : Prop := fnConsumerNoneUptoRow.holds Tryd.pinned (OpenSpec.upto fnConsumerNoneSpec)

/-- 'laws.FnConsumerReset', WHERE WHAT IT READS IS OF BULK AT MOST 1048576: true; the input reads as it did. -/
def fnConsumerResetUptoRow : OpenClaim := { program := "ytpbhblppehkifaadoor", sum := "ba0be9c54c858a220a8d9f53eb9ce92794e3464033f7eb146be4acb67a715031", func := "pub-streamkeep/laws.FnConsumerReset", spec := "fnConsumerReset", inPlace := ["(*internal/sync.Mutex).Lock", "internal/race.Disable", "sync/atomic.CompareAndSwapInt32", "internal/race.Enable", "internal/race.Acquire", "(*internal/sync.Mutex).lockSlow", "internal/sync.runtime_canSpin", "internal/sync.runtime_doSpin", "internal/sync.throw", "internal/sync.runtime_nanotime", "internal/sync.runtime_SemacquireMutex", "sync/atomic.AddInt32", "(*internal/sync.Mutex).Unlock", "internal/race.ReleaseMerge", "(*internal/sync.Mutex).unlockSlow", "internal/sync.fatal", "internal/sync.runtime_Semrelease", "internal/reflectlite.ValueOf", "internal/reflectlite.Swapper", "(internal/reflectlite.Value).Len"], unfollowed := true, recurses := true, named := ["pub-streamkeep/pub/natsserver/server.ErrNoAckPolicy", "pub-streamkeep/pub/natsserver/server.ErrStoreMsgNotFound", "pub-streamkeep/pub/natsserver/server.ErrStoreOldUpdate", "pub-streamkeep/pub/natsserver/server.ErrStoreClosed"], apart := false, laid := [("pub-streamkeep/pub/natsserver/server.ErrStoreClosed", laid_pub_streamkeep_pub_natsserver_server_ErrStoreClosed), ("pub-streamkeep/pub/natsserver/server.ErrStoreMsgNotFound", laid_pub_streamkeep_pub_natsserver_server_ErrStoreMsgNotFound), ("pub-streamkeep/pub/natsserver/server.ErrNoAckPolicy", laid_pub_streamkeep_pub_natsserver_server_ErrNoAckPolicy), ("pub-streamkeep/pub/natsserver/server.ErrStoreOldUpdate", laid_pub_streamkeep_pub_natsserver_server_ErrStoreOldUpdate)], narrowed := true }
def FnConsumerResetUptoSaid : Prop := fnConsumerResetUptoRow.holds Tryd.pinned (OpenSpec.upto fnConsumerResetSpec)

end Rows
end Go.Proofs.YtpbhblppehkifaaDoor
