/-
  No cell of these rows narrows 'for every input' (looked for: loops, veiled, ifaces, maps, wideKeys, modest, calm, conditions, laid).
  DERIVED. THE GIVEN ROWS OF THIS SEAT. 2 by the template 'for every input the law returns true; each argument reads behind the call as it read before'; 0 by the template 'total and deterministic' (their statements: Qxb6630343aFmtTotals.lean).
  GIVEN WITH THE SEED: the statements are not yours to turn. If you find one false, say at which input.
  Laid BY PROGRAM, IN A SANDBOX (cutbox-rows.mjs): the forced cells as the released guide's own fill.sh prints them over the translation cec95c1952c43bf1… (all of the seat's roots in one cut). By AI agents, Wed Nov 11 2026. No macro, syntax, notation, axiom, sorry.
-/
import Derived.Test.Qxb6630343aFmtChecked
import GoSem.Claim
import GoSem.ClaimJoined
import GoSem.ClaimMapViews
import Derived.JoinedTies
import Derived.KernelRfl
namespace Go.Proofs.Qxb6630343aFmt
/- THE CELL 'sum', in the pinned program and in every row, IS THE sha256 OF THE DUMP (.gsa) THAT Qxb6630343aFmtProg.lean LOADS. Nothing in Lean hashes anything: it is a label: what it is worth is what the hold of that sum in a sandbox is worth. -/
noncomputable def Tryf.pinned : Pinned := { name := "qxb6630343afmt", sum := "cec95c1952c43bf1dda4fa2d61423316596fb29206c3008aa88a20bb6af8916e", checked := Tryf.checked }
namespace Rows
def none {H : Type} : Left H := { results := [], args := [] }

/-- 'zzlaws_config_b1.FnControlSocketDotSlashRescue': WHATEVER THE INPUT: true; the input reads as it did. -/
def fnControlSocketDotSlashRescueSpec : ChangeSpec := { name := "fnControlSocketDotSlashRescue", fn := fun _ => fun
  | [d] => { results := [.lit (.bool true)], args := [d] }
  | _ => none }
def fnControlSocketDotSlashRescueRow : OpenClaim := { program := "qxb6630343afmt", sum := "cec95c1952c43bf1dda4fa2d61423316596fb29206c3008aa88a20bb6af8916e", func := "example.com/keyward/keyward/zzlaws_config_b1.FnControlSocketDotSlashRescue", spec := "fnControlSocketDotSlashRescue", stops := ["fmt.errorf"], inPlace := ["fmt.errorf"], apart := false }
/-- NO THEOREM (fmt's text is open here; it may be false): for the released tool's asking of the row's closed facts alone. THE STATEMENT IS 'FnControlSocketDotSlashRescueToldSaid' (Qxb6630343aFmtCards.lean). -/
def FnControlSocketDotSlashRescueFormAsk : Prop := fnControlSocketDotSlashRescueRow.holds Tryf.pinned (OpenSpec.ofChange fnControlSocketDotSlashRescueSpec)

/-- ITS FALSE NEIGHBOUR: 'it returns false'. Refute it at one input. -/
def fnControlSocketDotSlashRescueWrong : ChangeSpec := { name := "fnControlSocketDotSlashRescue", fn := fun _ => fun
  | [d] => { results := [.lit (.bool false)], args := [d] }
  | _ => none }
def FnControlSocketDotSlashRescueWrongFormAsk : Prop := fnControlSocketDotSlashRescueRow.holds Tryf.pinned (OpenSpec.ofChange fnControlSocketDotSlashRescueWrong)

/-- 'zzlaws_config_b1.FnControlSocketJoinAtAnyCut': WHATEVER THE INPUT: true; the input reads as it did. -/
def fnControlSocketJoinAtAnyCutSpec : ChangeSpec := { name := "fnControlSocketJoinAtAnyCut", fn := fun _ => fun
  | [d1, d2] => { results := [.lit (.bool true)], args := [d1, d2] }
  | _ => none }
def fnControlSocketJoinAtAnyCutRow : OpenClaim := { program := "qxb6630343afmt", sum := "cec95c1952c43bf1dda4fa2d61423316596fb29206c3008aa88a20bb6af8916e", func := "example.com/keyward/keyward/zzlaws_config_b1.FnControlSocketJoinAtAnyCut", spec := "fnControlSocketJoinAtAnyCut", stops := ["fmt.errorf"], inPlace := ["fmt.errorf"], apart := false }
/-- NO THEOREM (fmt's text is open here; it may be false): for the released tool's asking of the row's closed facts alone. THE STATEMENT IS 'FnControlSocketJoinAtAnyCutToldSaid' (Qxb6630343aFmtCards.lean). -/
def FnControlSocketJoinAtAnyCutFormAsk : Prop := fnControlSocketJoinAtAnyCutRow.holds Tryf.pinned (OpenSpec.ofChange fnControlSocketJoinAtAnyCutSpec)

/-- ITS FALSE NEIGHBOUR: 'it returns false'. Refute it at one input. -/
def fnControlSocketJoinAtAnyCutWrong : ChangeSpec := { name := "fnControlSocketJoinAtAnyCut", fn := fun _ => fun
  | [d1, d2] => { results := [.lit (.bool false)], args := [d1, d2] }
  | _ => none }
def FnControlSocketJoinAtAnyCutWrongFormAsk : Prop := fnControlSocketJoinAtAnyCutRow.holds Tryf.pinned (OpenSpec.ofChange fnControlSocketJoinAtAnyCutWrong)

end Rows
end Go.Proofs.Qxb6630343aFmt
