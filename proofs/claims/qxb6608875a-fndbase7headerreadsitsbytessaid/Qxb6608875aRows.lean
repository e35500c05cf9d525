/-
  No cell of these rows narrows 'for every input' (looked for: loops, veiled, ifaces, maps, wideKeys, modest, calm, conditions, laid).
  DERIVED. THE GIVEN ROWS OF THIS SEAT. 1 by the template 'for every input the law returns true; each argument reads behind the call as it read before'; 0 by the template 'total and deterministic' (their statements: Qxb6608875aTotals.lean).
  GIVEN WITH THE SEED: the statements are not yours to turn. If you find one false, say at which input.
  Laid BY PROGRAM, IN A SANDBOX (cutbox-rows.mjs): the forced cells as the released guide's own fill.sh prints them over the translation 2b46df31698001d2… (all of the seat's roots in one cut). By AI agents, Wed Nov 11 2026. No macro, syntax, notation, axiom, sorry.
-/
import Derived.Test.Qxb6608875aChecked
import GoSem.Claim
import GoSem.ClaimJoined
import GoSem.ClaimMapViews
import Derived.JoinedTies
import Derived.KernelRfl
namespace Go.Proofs.Qxb6608875a
/- THE CELL 'sum', in the pinned program and in every row, IS THE sha256 OF THE DUMP (.gsa) THAT Qxb6608875aProg.lean LOADS. Nothing in Lean hashes anything: it is a label: what it is worth is what the hold of that sum in a sandbox is worth. -/
noncomputable def Try.pinned : Pinned := { name := "qxb6608875a", sum := "2b46df31698001d2c83dc2960e8fb8550891f099be566f276282050c5dba9981", checked := Try.checked }
namespace Rows
def none {H : Type} : Left H := { results := [], args := [] }

/-- 'zzlaws_root_b1.FnDBase7HeaderReadsItsBytes': WHATEVER THE INPUT: true; the input reads as it did. -/
def fnDBase7HeaderReadsItsBytesSpec : ChangeSpec := { name := "fnDBase7HeaderReadsItsBytes", fn := fun _ => fun
  | [d] => { results := [.lit (.bool true)], args := [d] }
  | _ => none }
def fnDBase7HeaderReadsItsBytesRow : OpenClaim := { program := "qxb6608875a", sum := "2b46df31698001d2c83dc2960e8fb8550891f099be566f276282050c5dba9981", func := "example.com/starrow/starrow/zzlaws_root_b1.FnDBase7HeaderReadsItsBytes", spec := "fnDBase7HeaderReadsItsBytes", inPlace := ["internal/bytealg.IndexByte", "internal/bytealg.Index"], named := ["encoding/binary.LittleEndian", "internal/bytealg.MaxLen"], apart := false }
def FnDBase7HeaderReadsItsBytesSaid : Prop := fnDBase7HeaderReadsItsBytesRow.holds Try.pinned (OpenSpec.ofChange fnDBase7HeaderReadsItsBytesSpec)

/-- ITS FALSE NEIGHBOUR: 'it returns false'. Refute it at one input. -/
def fnDBase7HeaderReadsItsBytesWrong : ChangeSpec := { name := "fnDBase7HeaderReadsItsBytes", fn := fun _ => fun
  | [d] => { results := [.lit (.bool false)], args := [d] }
  | _ => none }
def FnDBase7HeaderReadsItsBytesWrongFalsely : Prop := fnDBase7HeaderReadsItsBytesRow.holds Try.pinned (OpenSpec.ofChange fnDBase7HeaderReadsItsBytesWrong)

end Rows
end Go.Proofs.Qxb6608875a
