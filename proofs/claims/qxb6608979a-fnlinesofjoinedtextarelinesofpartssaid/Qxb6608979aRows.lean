/-
  No cell of these rows narrows 'for every input' (looked for: loops, veiled, ifaces, maps, wideKeys, modest, calm, conditions, laid).
  DERIVED. THE GIVEN ROWS OF THIS SEAT. 2 by the template 'for every input the law returns true; each argument reads behind the call as it read before'; 0 by the template 'total and deterministic' (their statements: Qxb6608979aTotals.lean).
  GIVEN WITH THE SEED: the statements are not yours to turn. If you find one false, say at which input.
  Laid BY PROGRAM, IN A SANDBOX (cutbox-rows.mjs): the forced cells as the released guide's own fill.sh prints them over the translation 82dbd56eb2e69a04… (all of the seat's roots in one cut). By AI agents, Wed Nov 11 2026. No macro, syntax, notation, axiom, sorry.
-/
import Derived.Test.Qxb6608979aChecked
import GoSem.Claim
import GoSem.ClaimJoined
import GoSem.ClaimMapViews
import Derived.JoinedTies
import Derived.KernelRfl
namespace Go.Proofs.Qxb6608979a
/- THE CELL 'sum', in the pinned program and in every row, IS THE sha256 OF THE DUMP (.gsa) THAT Qxb6608979aProg.lean LOADS. Nothing in Lean hashes anything: it is a label: what it is worth is what the hold of that sum in a sandbox is worth. -/
noncomputable def Try.pinned : Pinned := { name := "qxb6608979a", sum := "82dbd56eb2e69a04f4e571ddb2d82703f5d593c167f0484e0a8b0aeb994a36f7", checked := Try.checked }
namespace Rows
def none {H : Type} : Left H := { results := [], args := [] }

/-- 'zzlaws_internal_filetext_b1.FnLinesRejoinToTextWithoutLineEndCRs': WHATEVER THE INPUT: true; the input reads as it did. -/
def fnLinesRejoinToTextWithoutLineEndCRsSpec : ChangeSpec := { name := "fnLinesRejoinToTextWithoutLineEndCRs", fn := fun _ => fun
  | [d] => { results := [.lit (.bool true)], args := [d] }
  | _ => none }
def fnLinesRejoinToTextWithoutLineEndCRsRow : OpenClaim := { program := "qxb6608979a", sum := "82dbd56eb2e69a04f4e571ddb2d82703f5d593c167f0484e0a8b0aeb994a36f7", func := "example.com/conjunct/conjunct/zzlaws_internal_filetext_b1.FnLinesRejoinToTextWithoutLineEndCRs", spec := "fnLinesRejoinToTextWithoutLineEndCRs", inPlace := ["internal/bytealg.CountString", "internal/bytealg.IndexByteString", "internal/bytealg.IndexString", "sync/atomic.LoadUint32", "(*internal/sync.Mutex).Lock", "internal/race.Disable", "sync/atomic.CompareAndSwapInt32", "internal/race.Enable", "internal/race.Acquire", "(*internal/sync.Mutex).lockSlow", "internal/sync.runtime_canSpin", "internal/sync.runtime_doSpin", "internal/sync.throw", "internal/sync.runtime_nanotime", "internal/sync.runtime_SemacquireMutex", "sync/atomic.AddInt32", "(*internal/sync.Mutex).Unlock", "internal/race.ReleaseMerge", "(*internal/sync.Mutex).unlockSlow", "internal/sync.fatal", "internal/sync.runtime_Semrelease", "sync/atomic.StoreUint32"], unfollowed := true, recurses := true, named := ["internal/bytealg.MaxLen"], apart := false }
def FnLinesRejoinToTextWithoutLineEndCRsSaid : Prop := fnLinesRejoinToTextWithoutLineEndCRsRow.holds Try.pinned (OpenSpec.ofChange fnLinesRejoinToTextWithoutLineEndCRsSpec)

/-- ITS FALSE NEIGHBOUR: 'it returns false'. Refute it at one input. -/
def fnLinesRejoinToTextWithoutLineEndCRsWrong : ChangeSpec := { name := "fnLinesRejoinToTextWithoutLineEndCRs", fn := fun _ => fun
  | [d] => { results := [.lit (.bool false)], args := [d] }
  | _ => none }
def FnLinesRejoinToTextWithoutLineEndCRsWrongFalsely : Prop := fnLinesRejoinToTextWithoutLineEndCRsRow.holds Try.pinned (OpenSpec.ofChange fnLinesRejoinToTextWithoutLineEndCRsWrong)

/-- 'zzlaws_internal_filetext_b1.FnLinesOfJoinedTextAreLinesOfParts': WHATEVER THE INPUT: true; the input reads as it did. -/
def fnLinesOfJoinedTextAreLinesOfPartsSpec : ChangeSpec := { name := "fnLinesOfJoinedTextAreLinesOfParts", fn := fun _ => fun
  | [d1, d2] => { results := [.lit (.bool true)], args := [d1, d2] }
  | _ => none }
def fnLinesOfJoinedTextAreLinesOfPartsRow : OpenClaim := { program := "qxb6608979a", sum := "82dbd56eb2e69a04f4e571ddb2d82703f5d593c167f0484e0a8b0aeb994a36f7", func := "example.com/conjunct/conjunct/zzlaws_internal_filetext_b1.FnLinesOfJoinedTextAreLinesOfParts", spec := "fnLinesOfJoinedTextAreLinesOfParts", inPlace := ["internal/bytealg.CountString", "internal/bytealg.IndexByteString", "internal/bytealg.IndexString", "sync/atomic.LoadUint32", "(*internal/sync.Mutex).Lock", "internal/race.Disable", "sync/atomic.CompareAndSwapInt32", "internal/race.Enable", "internal/race.Acquire", "(*internal/sync.Mutex).lockSlow", "internal/sync.runtime_canSpin", "internal/sync.runtime_doSpin", "internal/sync.throw", "internal/sync.runtime_nanotime", "internal/sync.runtime_SemacquireMutex", "sync/atomic.AddInt32", "(*internal/sync.Mutex).Unlock", "internal/race.ReleaseMerge", "(*internal/sync.Mutex).unlockSlow", "internal/sync.fatal", "internal/sync.runtime_Semrelease", "sync/atomic.StoreUint32"], unfollowed := true, recurses := true, named := ["internal/bytealg.MaxLen"], apart := false }
def FnLinesOfJoinedTextAreLinesOfPartsSaid : Prop := fnLinesOfJoinedTextAreLinesOfPartsRow.holds Try.pinned (OpenSpec.ofChange fnLinesOfJoinedTextAreLinesOfPartsSpec)

/-- ITS FALSE NEIGHBOUR: 'it returns false'. Refute it at one input. -/
def fnLinesOfJoinedTextAreLinesOfPartsWrong : ChangeSpec := { name := "fnLinesOfJoinedTextAreLinesOfParts", fn := fun _ => fun
  | [d1, d2] => { results := [.lit (.bool false)], args := [d1, d2] }
  | _ => none }
def FnLinesOfJoinedTextAreLinesOfPartsWrongFalsely : Prop := fnLinesOfJoinedTextAreLinesOfPartsRow.holds Try.pinned (OpenSpec.ofChange fnLinesOfJoinedTextAreLinesOfPartsWrong)

end Rows
end Go.Proofs.Qxb6608979a
