/-
  DERIVED. GIVEN WITH THE SEED: THE CARDS: each row of Qxb6630343aFmtRows.lean that lists a variable, with what it lists TIED to the program's text (the seventh form; the later family's looks); each row that meets fmt, with fmt's text TOLD by the authors' own Lean function (tested against real Go, not proved from fmt's source: count such statements apart). THE CARD IS WHAT COUNTS. Prove the row's statement (the work); the ties are given (Qxb6630343aFmtTie.lean); close each card by the builder's one call (the guide's Derived/Test/ToyasCard.lean, 'card_holds'). Laid BY PROGRAM, IN A SANDBOX (cutbox-door.mjs). By AI agents, Wed Nov 11 2026. No macro, syntax, notation, axiom, sorry.
-/
import Derived.Test.Qxb6630343aFmtRows
import GoSem.ClaimSeven
namespace Go.Proofs.Qxb6630343aFmt
namespace Rows

/-- THE TOLD CARD OF 'zzlaws_config_b1.FnControlSocketDotSlashRescue'. -/
def fnControlSocketDotSlashRescueCard : Claim7 := { stood := { row := fnControlSocketDotSlashRescueRow, standIns := [], harness := (true, "c1875bb67a2823d9791af8d4f3dbce839f9b82f90f0849a1b9c1207574b316de"), looks := false }, told := true, goes := false }
def FnControlSocketDotSlashRescueToldSaid : Prop := Claim7.holds Tryf.pinned (.plain (OpenSpec.ofChange fnControlSocketDotSlashRescueSpec)) fnControlSocketDotSlashRescueCard
/-- ITS FALSE NEIGHBOUR. Refute it at one input. -/
def FnControlSocketDotSlashRescueToldWrongFalsely : Prop := Claim7.holds Tryf.pinned (.plain (OpenSpec.ofChange fnControlSocketDotSlashRescueWrong)) fnControlSocketDotSlashRescueCard

/-- THE TOLD CARD OF 'zzlaws_config_b1.FnControlSocketJoinAtAnyCut'. -/
def fnControlSocketJoinAtAnyCutCard : Claim7 := { stood := { row := fnControlSocketJoinAtAnyCutRow, standIns := [], harness := (true, "c1875bb67a2823d9791af8d4f3dbce839f9b82f90f0849a1b9c1207574b316de"), looks := false }, told := true, goes := false }
def FnControlSocketJoinAtAnyCutToldSaid : Prop := Claim7.holds Tryf.pinned (.plain (OpenSpec.ofChange fnControlSocketJoinAtAnyCutSpec)) fnControlSocketJoinAtAnyCutCard
/-- ITS FALSE NEIGHBOUR. Refute it at one input. -/
def FnControlSocketJoinAtAnyCutToldWrongFalsely : Prop := Claim7.holds Tryf.pinned (.plain (OpenSpec.ofChange fnControlSocketJoinAtAnyCutWrong)) fnControlSocketJoinAtAnyCutCard
end Rows
end Go.Proofs.Qxb6630343aFmt
