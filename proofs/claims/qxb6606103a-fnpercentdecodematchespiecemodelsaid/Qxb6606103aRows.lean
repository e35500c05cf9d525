/-
  No cell of these rows narrows 'for every input' (looked for: loops, veiled, ifaces, maps, wideKeys, modest, calm, conditions, laid).
  DERIVED. THE GIVEN ROWS OF THIS SEAT. 3 by the template 'for every input the law returns true; each argument reads behind the call as it read before'; 0 by the template 'total and deterministic' (their statements: Qxb6606103aTotals.lean).
  GIVEN WITH THE SEED: the statements are not yours to turn. If you find one false, say at which input.
  Laid BY PROGRAM, IN A SANDBOX (cutbox-rows.mjs): the forced cells as the released guide's own fill.sh prints them over the translation 4c5b64888df0b50a… (all of the seat's roots in one cut). By AI agents, Wed Nov 11 2026. No macro, syntax, notation, axiom, sorry.
-/
import Derived.Test.Qxb6606103aChecked
import GoSem.Claim
import GoSem.ClaimJoined
import GoSem.ClaimMapViews
import Derived.JoinedTies
import Derived.KernelRfl
namespace Go.Proofs.Qxb6606103a
/- THE CELL 'sum', in the pinned program and in every row, IS THE sha256 OF THE DUMP (.gsa) THAT Qxb6606103aProg.lean LOADS. Nothing in Lean hashes anything: it is a label: what it is worth is what the hold of that sum in a sandbox is worth. -/
noncomputable def Try.pinned : Pinned := { name := "qxb6606103a", sum := "4c5b64888df0b50a7528b38f08286b7888f48d4c1ed515d34c6b5236685e58ac", checked := Try.checked }
namespace Rows
def none {H : Type} : Left H := { results := [], args := [] }

/-- 'zzlaws_root_b1.FnPercentDecodeMatchesPieceModel': WHATEVER THE INPUT: true; the input reads as it did. -/
def fnPercentDecodeMatchesPieceModelSpec : ChangeSpec := { name := "fnPercentDecodeMatchesPieceModel", fn := fun _ => fun
  | [d] => { results := [.lit (.bool true)], args := [d] }
  | _ => none }
def fnPercentDecodeMatchesPieceModelRow : OpenClaim := { program := "qxb6606103a", sum := "4c5b64888df0b50a7528b38f08286b7888f48d4c1ed515d34c6b5236685e58ac", func := "example.com/tildeslash/tildeslash/zzlaws_root_b1.FnPercentDecodeMatchesPieceModel", spec := "fnPercentDecodeMatchesPieceModel", inPlace := ["internal/bytealg.IndexByteString", "internal/abi.NoEscape", "internal/bytealg.MakeNoZero"], apart := false }
def FnPercentDecodeMatchesPieceModelSaid : Prop := fnPercentDecodeMatchesPieceModelRow.holds Try.pinned (OpenSpec.ofChange fnPercentDecodeMatchesPieceModelSpec)

/-- ITS FALSE NEIGHBOUR: 'it returns false'. Refute it at one input. -/
def fnPercentDecodeMatchesPieceModelWrong : ChangeSpec := { name := "fnPercentDecodeMatchesPieceModel", fn := fun _ => fun
  | [d] => { results := [.lit (.bool false)], args := [d] }
  | _ => none }
def FnPercentDecodeMatchesPieceModelWrongFalsely : Prop := fnPercentDecodeMatchesPieceModelRow.holds Try.pinned (OpenSpec.ofChange fnPercentDecodeMatchesPieceModelWrong)

/-- 'zzlaws_root_b1.FnPercentDecodeUndoesEncode': WHATEVER THE INPUT: true; the input reads as it did. -/
def fnPercentDecodeUndoesEncodeSpec : ChangeSpec := { name := "fnPercentDecodeUndoesEncode", fn := fun _ => fun
  | [d1, d2, d3] => { results := [.lit (.bool true)], args := [d1, d2, d3] }
  | _ => none }
def fnPercentDecodeUndoesEncodeRow : OpenClaim := { program := "qxb6606103a", sum := "4c5b64888df0b50a7528b38f08286b7888f48d4c1ed515d34c6b5236685e58ac", func := "example.com/tildeslash/tildeslash/zzlaws_root_b1.FnPercentDecodeUndoesEncode", spec := "fnPercentDecodeUndoesEncode", inPlace := ["internal/bytealg.IndexByteString", "internal/abi.NoEscape", "internal/bytealg.MakeNoZero"], apart := false }
def FnPercentDecodeUndoesEncodeSaid : Prop := fnPercentDecodeUndoesEncodeRow.holds Try.pinned (OpenSpec.ofChange fnPercentDecodeUndoesEncodeSpec)

/-- ITS FALSE NEIGHBOUR: 'it returns false'. Refute it at one input. -/
def fnPercentDecodeUndoesEncodeWrong : ChangeSpec := { name := "fnPercentDecodeUndoesEncode", fn := fun _ => fun
  | [d1, d2, d3] => { results := [.lit (.bool false)], args := [d1, d2, d3] }
  | _ => none }
def FnPercentDecodeUndoesEncodeWrongFalsely : Prop := fnPercentDecodeUndoesEncodeRow.holds Try.pinned (OpenSpec.ofChange fnPercentDecodeUndoesEncodeWrong)

/-- 'zzlaws_root_b1.FnPercentDecodeConcatenates': WHATEVER THE INPUT: true; the input reads as it did. -/
def fnPercentDecodeConcatenatesSpec : ChangeSpec := { name := "fnPercentDecodeConcatenates", fn := fun _ => fun
  | [d1, d2] => { results := [.lit (.bool true)], args := [d1, d2] }
  | _ => none }
def fnPercentDecodeConcatenatesRow : OpenClaim := { program := "qxb6606103a", sum := "4c5b64888df0b50a7528b38f08286b7888f48d4c1ed515d34c6b5236685e58ac", func := "example.com/tildeslash/tildeslash/zzlaws_root_b1.FnPercentDecodeConcatenates", spec := "fnPercentDecodeConcatenates", inPlace := ["internal/bytealg.IndexByteString", "internal/abi.NoEscape", "internal/bytealg.MakeNoZero"], apart := false }
def FnPercentDecodeConcatenatesSaid : Prop := fnPercentDecodeConcatenatesRow.holds Try.pinned (OpenSpec.ofChange fnPercentDecodeConcatenatesSpec)

/-- ITS FALSE NEIGHBOUR: 'it returns false'. Refute it at one input. -/
def fnPercentDecodeConcatenatesWrong : ChangeSpec := { name := "fnPercentDecodeConcatenates", fn := fun _ => fun
  | [d1, d2] => { results := [.lit (.bool false)], args := [d1, d2] }
  | _ => none }
def FnPercentDecodeConcatenatesWrongFalsely : Prop := fnPercentDecodeConcatenatesRow.holds Try.pinned (OpenSpec.ofChange fnPercentDecodeConcatenatesWrong)

end Rows
end Go.Proofs.Qxb6606103a
