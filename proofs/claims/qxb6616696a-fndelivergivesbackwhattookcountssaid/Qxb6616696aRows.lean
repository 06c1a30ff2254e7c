/-
  No cell of these rows narrows 'for every input' (looked for: loops, veiled, ifaces, maps, wideKeys, modest, calm, conditions, laid).
  DERIVED. THE GIVEN ROWS OF THIS SEAT. 3 by the template 'for every input the law returns true; each argument reads behind the call as it read before'; 0 by the template 'total and deterministic' (their statements: Qxb6616696aTotals.lean).
  GIVEN WITH THE SEED: the statements are not yours to turn. If you find one false, say at which input.
  Laid BY PROGRAM, IN A SANDBOX (cutbox-rows.mjs): the forced cells as the released guide's own fill.sh prints them over the translation 57870db712841d75… (all of the seat's roots in one cut). By AI agents, Wed Nov 11 2026. No macro, syntax, notation, axiom, sorry.
-/
import Derived.Test.Qxb6616696aChecked
import GoSem.Claim
import GoSem.ClaimJoined
import GoSem.ClaimMapViews
import Derived.JoinedTies
import Derived.KernelRfl
namespace Go.Proofs.Qxb6616696a
/- THE CELL 'sum', in the pinned program and in every row, IS THE sha256 OF THE DUMP (.gsa) THAT Qxb6616696aProg.lean LOADS. Nothing in Lean hashes anything: it is a label: what it is worth is what the hold of that sum in a sandbox is worth. -/
noncomputable def Try.pinned : Pinned := { name := "qxb6616696a", sum := "57870db712841d75a49184f5b7c649975dfb79595137d9817f3d5fa91842b82e", checked := Try.checked }
namespace Rows
def none {H : Type} : Left H := { results := [], args := [] }

/-- 'zzlaws_root_b1.FnTookAccountsForEveryPart': WHATEVER THE INPUT: true; the input reads as it did. -/
def fnTookAccountsForEveryPartSpec : ChangeSpec := { name := "fnTookAccountsForEveryPart", fn := fun _ => fun
  | [d1, d2] => { results := [.lit (.bool true)], args := [d1, d2] }
  | _ => none }
def fnTookAccountsForEveryPartRow : OpenClaim := { program := "qxb6616696a", sum := "57870db712841d75a49184f5b7c649975dfb79595137d9817f3d5fa91842b82e", func := "example.com/relaycall/relaycall/zzlaws_root_b1.FnTookAccountsForEveryPart", spec := "fnTookAccountsForEveryPart", apart := false }
def FnTookAccountsForEveryPartSaid : Prop := fnTookAccountsForEveryPartRow.holds Try.pinned (OpenSpec.ofChange fnTookAccountsForEveryPartSpec)

/-- ITS FALSE NEIGHBOUR: 'it returns false'. Refute it at one input. -/
def fnTookAccountsForEveryPartWrong : ChangeSpec := { name := "fnTookAccountsForEveryPart", fn := fun _ => fun
  | [d1, d2] => { results := [.lit (.bool false)], args := [d1, d2] }
  | _ => none }
def FnTookAccountsForEveryPartWrongFalsely : Prop := fnTookAccountsForEveryPartRow.holds Try.pinned (OpenSpec.ofChange fnTookAccountsForEveryPartWrong)

/-- 'zzlaws_root_b1.FnDeliverKeepsOnPartFramesInOrder': WHATEVER THE INPUT: true; the input reads as it did. -/
def fnDeliverKeepsOnPartFramesInOrderSpec : ChangeSpec := { name := "fnDeliverKeepsOnPartFramesInOrder", fn := fun _ => fun
  | [d1, d2] => { results := [.lit (.bool true)], args := [d1, d2] }
  | _ => none }
def fnDeliverKeepsOnPartFramesInOrderRow : OpenClaim := { program := "qxb6616696a", sum := "57870db712841d75a49184f5b7c649975dfb79595137d9817f3d5fa91842b82e", func := "example.com/relaycall/relaycall/zzlaws_root_b1.FnDeliverKeepsOnPartFramesInOrder", spec := "fnDeliverKeepsOnPartFramesInOrder", inPlace := ["(*internal/sync.Mutex).Lock", "internal/race.Disable", "sync/atomic.CompareAndSwapInt32", "internal/race.Enable", "internal/race.Acquire", "(*internal/sync.Mutex).lockSlow", "internal/sync.runtime_canSpin", "internal/sync.runtime_doSpin", "internal/sync.throw", "internal/sync.runtime_nanotime", "internal/sync.runtime_SemacquireMutex", "sync/atomic.AddInt32", "(*internal/sync.Mutex).Unlock", "internal/race.ReleaseMerge", "(*internal/sync.Mutex).unlockSlow", "internal/sync.fatal", "internal/sync.runtime_Semrelease"], unfollowed := true, recurses := true, named := ["encoding/binary.BigEndian"], apart := false }
def FnDeliverKeepsOnPartFramesInOrderSaid : Prop := fnDeliverKeepsOnPartFramesInOrderRow.holds Try.pinned (OpenSpec.ofChange fnDeliverKeepsOnPartFramesInOrderSpec)

/-- ITS FALSE NEIGHBOUR: 'it returns false'. Refute it at one input. -/
def fnDeliverKeepsOnPartFramesInOrderWrong : ChangeSpec := { name := "fnDeliverKeepsOnPartFramesInOrder", fn := fun _ => fun
  | [d1, d2] => { results := [.lit (.bool false)], args := [d1, d2] }
  | _ => none }
def FnDeliverKeepsOnPartFramesInOrderWrongFalsely : Prop := fnDeliverKeepsOnPartFramesInOrderRow.holds Try.pinned (OpenSpec.ofChange fnDeliverKeepsOnPartFramesInOrderWrong)

/-- 'zzlaws_root_b1.FnDeliverGivesBackWhatTookCounts': WHATEVER THE INPUT: true; the input reads as it did. -/
def fnDeliverGivesBackWhatTookCountsSpec : ChangeSpec := { name := "fnDeliverGivesBackWhatTookCounts", fn := fun _ => fun
  | [d1, d2, d3] => { results := [.lit (.bool true)], args := [d1, d2, d3] }
  | _ => none }
def fnDeliverGivesBackWhatTookCountsRow : OpenClaim := { program := "qxb6616696a", sum := "57870db712841d75a49184f5b7c649975dfb79595137d9817f3d5fa91842b82e", func := "example.com/relaycall/relaycall/zzlaws_root_b1.FnDeliverGivesBackWhatTookCounts", spec := "fnDeliverGivesBackWhatTookCounts", inPlace := ["(*internal/sync.Mutex).Lock", "internal/race.Disable", "sync/atomic.CompareAndSwapInt32", "internal/race.Enable", "internal/race.Acquire", "(*internal/sync.Mutex).lockSlow", "internal/sync.runtime_canSpin", "internal/sync.runtime_doSpin", "internal/sync.throw", "internal/sync.runtime_nanotime", "internal/sync.runtime_SemacquireMutex", "sync/atomic.AddInt32", "(*internal/sync.Mutex).Unlock", "internal/race.ReleaseMerge", "(*internal/sync.Mutex).unlockSlow", "internal/sync.fatal", "internal/sync.runtime_Semrelease"], unfollowed := true, recurses := true, named := ["encoding/binary.BigEndian"], apart := false }
def FnDeliverGivesBackWhatTookCountsSaid : Prop := fnDeliverGivesBackWhatTookCountsRow.holds Try.pinned (OpenSpec.ofChange fnDeliverGivesBackWhatTookCountsSpec)

/-- ITS FALSE NEIGHBOUR: 'it returns false'. Refute it at one input. -/
def fnDeliverGivesBackWhatTookCountsWrong : ChangeSpec := { name := "fnDeliverGivesBackWhatTookCounts", fn := fun _ => fun
  | [d1, d2, d3] => { results := [.lit (.bool false)], args := [d1, d2, d3] }
  | _ => none }
def FnDeliverGivesBackWhatTookCountsWrongFalsely : Prop := fnDeliverGivesBackWhatTookCountsRow.holds Try.pinned (OpenSpec.ofChange fnDeliverGivesBackWhatTookCountsWrong)

end Rows
end Go.Proofs.Qxb6616696a
