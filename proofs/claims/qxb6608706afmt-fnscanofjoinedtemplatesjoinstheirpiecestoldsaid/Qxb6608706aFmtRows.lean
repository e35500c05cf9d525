/-
  No cell of these rows narrows 'for every input' (looked for: loops, veiled, ifaces, maps, wideKeys, modest, calm, conditions, laid).
  DERIVED. THE GIVEN ROWS OF THIS SEAT. 2 by the template 'for every input the law returns true; each argument reads behind the call as it read before'; 0 by the template 'total and deterministic' (their statements: Qxb6608706aFmtTotals.lean).
  GIVEN WITH THE SEED: the statements are not yours to turn. If you find one false, say at which input.
  Laid BY PROGRAM, IN A SANDBOX (cutbox-rows.mjs): the forced cells as the released guide's own fill.sh prints them over the translation f0760281e9c41d1e… (all of the seat's roots in one cut). By AI agents, Wed Nov 11 2026. No macro, syntax, notation, axiom, sorry.
-/
import Derived.Test.Qxb6608706aFmtChecked
import GoSem.Claim
import GoSem.ClaimJoined
import GoSem.ClaimMapViews
import Derived.JoinedTies
import Derived.KernelRfl
namespace Go.Proofs.Qxb6608706aFmt
/- THE CELL 'sum', in the pinned program and in every row, IS THE sha256 OF THE DUMP (.gsa) THAT Qxb6608706aFmtProg.lean LOADS. Nothing in Lean hashes anything: it is a label: what it is worth is what the hold of that sum in a sandbox is worth. -/
noncomputable def Tryf.pinned : Pinned := { name := "qxb6608706afmt", sum := "f0760281e9c41d1ecb0844f7e168bf777d71a757d193668fc2772c8715dc722a", checked := Tryf.checked }
namespace Rows
def none {H : Type} : Left H := { results := [], args := [] }

/-- 'zzlaws_pkg_patterns_b1.FnScanSplitsExactlyTheWellFormedTemplates': WHATEVER THE INPUT: true; the input reads as it did. -/
def fnScanSplitsExactlyTheWellFormedTemplatesSpec : ChangeSpec := { name := "fnScanSplitsExactlyTheWellFormedTemplates", fn := fun _ => fun
  | [d] => { results := [.lit (.bool true)], args := [d] }
  | _ => none }
def fnScanSplitsExactlyTheWellFormedTemplatesRow : OpenClaim := { program := "qxb6608706afmt", sum := "f0760281e9c41d1ecb0844f7e168bf777d71a757d193668fc2772c8715dc722a", func := "example.com/weftline/weftline/zzlaws_pkg_patterns_b1.FnScanSplitsExactlyTheWellFormedTemplates", spec := "fnScanSplitsExactlyTheWellFormedTemplates", stops := ["fmt.errorf"], inPlace := ["internal/abi.NoEscape", "internal/bytealg.IndexByteString", "internal/bytealg.IndexString", "fmt.errorf"], unfollowed := true, recurses := true, named := ["internal/bytealg.MaxLen"], apart := false }
/-- NO THEOREM (fmt's text is open here; it may be false): for the released tool's asking of the row's closed facts alone. THE STATEMENT IS 'FnScanSplitsExactlyTheWellFormedTemplatesToldSaid' (Qxb6608706aFmtCards.lean). -/
def FnScanSplitsExactlyTheWellFormedTemplatesFormAsk : Prop := fnScanSplitsExactlyTheWellFormedTemplatesRow.holds Tryf.pinned (OpenSpec.ofChange fnScanSplitsExactlyTheWellFormedTemplatesSpec)

/-- ITS FALSE NEIGHBOUR: 'it returns false'. Refute it at one input. -/
def fnScanSplitsExactlyTheWellFormedTemplatesWrong : ChangeSpec := { name := "fnScanSplitsExactlyTheWellFormedTemplates", fn := fun _ => fun
  | [d] => { results := [.lit (.bool false)], args := [d] }
  | _ => none }
def FnScanSplitsExactlyTheWellFormedTemplatesWrongFormAsk : Prop := fnScanSplitsExactlyTheWellFormedTemplatesRow.holds Tryf.pinned (OpenSpec.ofChange fnScanSplitsExactlyTheWellFormedTemplatesWrong)

/-- 'zzlaws_pkg_patterns_b1.FnScanOfJoinedTemplatesJoinsTheirPieces': WHATEVER THE INPUT: true; the input reads as it did. -/
def fnScanOfJoinedTemplatesJoinsTheirPiecesSpec : ChangeSpec := { name := "fnScanOfJoinedTemplatesJoinsTheirPieces", fn := fun _ => fun
  | [d1, d2] => { results := [.lit (.bool true)], args := [d1, d2] }
  | _ => none }
def fnScanOfJoinedTemplatesJoinsTheirPiecesRow : OpenClaim := { program := "qxb6608706afmt", sum := "f0760281e9c41d1ecb0844f7e168bf777d71a757d193668fc2772c8715dc722a", func := "example.com/weftline/weftline/zzlaws_pkg_patterns_b1.FnScanOfJoinedTemplatesJoinsTheirPieces", spec := "fnScanOfJoinedTemplatesJoinsTheirPieces", stops := ["fmt.errorf"], inPlace := ["internal/abi.NoEscape", "internal/bytealg.IndexByteString", "internal/bytealg.IndexString", "fmt.errorf"], unfollowed := true, recurses := true, named := ["internal/bytealg.MaxLen"], apart := false }
/-- NO THEOREM (fmt's text is open here; it may be false): for the released tool's asking of the row's closed facts alone. THE STATEMENT IS 'FnScanOfJoinedTemplatesJoinsTheirPiecesToldSaid' (Qxb6608706aFmtCards.lean). -/
def FnScanOfJoinedTemplatesJoinsTheirPiecesFormAsk : Prop := fnScanOfJoinedTemplatesJoinsTheirPiecesRow.holds Tryf.pinned (OpenSpec.ofChange fnScanOfJoinedTemplatesJoinsTheirPiecesSpec)

/-- ITS FALSE NEIGHBOUR: 'it returns false'. Refute it at one input. -/
def fnScanOfJoinedTemplatesJoinsTheirPiecesWrong : ChangeSpec := { name := "fnScanOfJoinedTemplatesJoinsTheirPieces", fn := fun _ => fun
  | [d1, d2] => { results := [.lit (.bool false)], args := [d1, d2] }
  | _ => none }
def FnScanOfJoinedTemplatesJoinsTheirPiecesWrongFormAsk : Prop := fnScanOfJoinedTemplatesJoinsTheirPiecesRow.holds Tryf.pinned (OpenSpec.ofChange fnScanOfJoinedTemplatesJoinsTheirPiecesWrong)

end Rows
end Go.Proofs.Qxb6608706aFmt
