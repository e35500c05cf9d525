/-
  DERIVED. GIVEN WITH THE SEED: THE CARDS: each row of Qxb6608706aFmtRows.lean that lists a variable, with what it lists TIED to the program's text (the seventh form; the later family's looks); each row that meets fmt, with fmt's text TOLD by the authors' own Lean function (tested against real Go, not proved from fmt's source: count such statements apart). THE CARD IS WHAT COUNTS. Prove the row's statement (the work); the ties are given (Qxb6608706aFmtTie.lean); close each card by the builder's one call (the guide's Derived/Test/ToyasCard.lean, 'card_holds'). Laid BY PROGRAM, IN A SANDBOX (cutbox-door.mjs). By AI agents, Wed Nov 11 2026. No macro, syntax, notation, axiom, sorry.
-/
import Derived.Test.Qxb6608706aFmtRows
import GoSem.ClaimSeven
namespace Go.Proofs.Qxb6608706aFmt
namespace Rows

/-- THE TOLD CARD OF 'zzlaws_pkg_patterns_b1.FnScanSplitsExactlyTheWellFormedTemplates'. -/
def fnScanSplitsExactlyTheWellFormedTemplatesCard : Claim7 := { stood := { row := fnScanSplitsExactlyTheWellFormedTemplatesRow, standIns := [], harness := (true, "d1b05828ad249fb46c83053b7618ec530d2c5e7d3da624794207537b36362198"), looks := false }, told := true, goes := false }
def FnScanSplitsExactlyTheWellFormedTemplatesToldSaid : Prop := Claim7.holds Tryf.pinned (.plain (OpenSpec.ofChange fnScanSplitsExactlyTheWellFormedTemplatesSpec)) fnScanSplitsExactlyTheWellFormedTemplatesCard
/-- ITS FALSE NEIGHBOUR. Refute it at one input. -/
def FnScanSplitsExactlyTheWellFormedTemplatesToldWrongFalsely : Prop := Claim7.holds Tryf.pinned (.plain (OpenSpec.ofChange fnScanSplitsExactlyTheWellFormedTemplatesWrong)) fnScanSplitsExactlyTheWellFormedTemplatesCard

/-- THE TOLD CARD OF 'zzlaws_pkg_patterns_b1.FnScanOfJoinedTemplatesJoinsTheirPieces'. -/
def fnScanOfJoinedTemplatesJoinsTheirPiecesCard : Claim7 := { stood := { row := fnScanOfJoinedTemplatesJoinsTheirPiecesRow, standIns := [], harness := (true, "d1b05828ad249fb46c83053b7618ec530d2c5e7d3da624794207537b36362198"), looks := false }, told := true, goes := false }
def FnScanOfJoinedTemplatesJoinsTheirPiecesToldSaid : Prop := Claim7.holds Tryf.pinned (.plain (OpenSpec.ofChange fnScanOfJoinedTemplatesJoinsTheirPiecesSpec)) fnScanOfJoinedTemplatesJoinsTheirPiecesCard
/-- ITS FALSE NEIGHBOUR. Refute it at one input. -/
def FnScanOfJoinedTemplatesJoinsTheirPiecesToldWrongFalsely : Prop := Claim7.holds Tryf.pinned (.plain (OpenSpec.ofChange fnScanOfJoinedTemplatesJoinsTheirPiecesWrong)) fnScanOfJoinedTemplatesJoinsTheirPiecesCard
end Rows
end Go.Proofs.Qxb6608706aFmt
