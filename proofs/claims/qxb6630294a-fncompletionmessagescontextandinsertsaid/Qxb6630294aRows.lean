/-
  No cell of these rows narrows 'for every input' (looked for: loops, veiled, ifaces, maps, wideKeys, modest, calm, conditions, laid).
  DERIVED. THE GIVEN ROWS OF THIS SEAT. 2 by the template 'for every input the law returns true; each argument reads behind the call as it read before'; 0 by the template 'total and deterministic' (their statements: Qxb6630294aTotals.lean).
  GIVEN WITH THE SEED: the statements are not yours to turn. If you find one false, say at which input.
  Laid BY PROGRAM, IN A SANDBOX (cutbox-rows.mjs): the forced cells as the released guide's own fill.sh prints them over the translation c39af728e72c50d9… (all of the seat's roots in one cut). By AI agents, Wed Nov 11 2026. No macro, syntax, notation, axiom, sorry.
-/
import Derived.Test.Qxb6630294aChecked
import GoSem.Claim
import GoSem.ClaimJoined
import GoSem.ClaimMapViews
import Derived.JoinedTies
import Derived.KernelRfl
namespace Go.Proofs.Qxb6630294a
/- THE CELL 'sum', in the pinned program and in every row, IS THE sha256 OF THE DUMP (.gsa) THAT Qxb6630294aProg.lean LOADS. Nothing in Lean hashes anything: it is a label: what it is worth is what the hold of that sum in a sandbox is worth. -/
noncomputable def Try.pinned : Pinned := { name := "qxb6630294a", sum := "c39af728e72c50d93aba46fa424e27739414584e8ce23c6231bf479036888a2b", checked := Try.checked }
namespace Rows
def none {H : Type} : Left H := { results := [], args := [] }

/-- 'zzlaws_providers_b1.FnCompletionMessagesSplitEarlier': WHATEVER THE INPUT: true; the input reads as it did. -/
def fnCompletionMessagesSplitEarlierSpec : ChangeSpec := { name := "fnCompletionMessagesSplitEarlier", fn := fun _ => fun
  | [d1, d2, d3, d4] => { results := [.lit (.bool true)], args := [d1, d2, d3, d4] }
  | _ => none }
def fnCompletionMessagesSplitEarlierRow : OpenClaim := { program := "qxb6630294a", sum := "c39af728e72c50d93aba46fa424e27739414584e8ce23c6231bf479036888a2b", func := "example.com/replyd/replyd/zzlaws_providers_b1.FnCompletionMessagesSplitEarlier", spec := "fnCompletionMessagesSplitEarlier", apart := false }
def FnCompletionMessagesSplitEarlierSaid : Prop := fnCompletionMessagesSplitEarlierRow.holds Try.pinned (OpenSpec.ofChange fnCompletionMessagesSplitEarlierSpec)

/-- ITS FALSE NEIGHBOUR: 'it returns false'. Refute it at one input. -/
def fnCompletionMessagesSplitEarlierWrong : ChangeSpec := { name := "fnCompletionMessagesSplitEarlier", fn := fun _ => fun
  | [d1, d2, d3, d4] => { results := [.lit (.bool false)], args := [d1, d2, d3, d4] }
  | _ => none }
def FnCompletionMessagesSplitEarlierWrongFalsely : Prop := fnCompletionMessagesSplitEarlierRow.holds Try.pinned (OpenSpec.ofChange fnCompletionMessagesSplitEarlierWrong)

/-- 'zzlaws_providers_b1.FnCompletionMessagesContextAndInsert': WHATEVER THE INPUT: true; the input reads as it did. -/
def fnCompletionMessagesContextAndInsertSpec : ChangeSpec := { name := "fnCompletionMessagesContextAndInsert", fn := fun _ => fun
  | [d1, d2, d3, d4, d5] => { results := [.lit (.bool true)], args := [d1, d2, d3, d4, d5] }
  | _ => none }
def fnCompletionMessagesContextAndInsertRow : OpenClaim := { program := "qxb6630294a", sum := "c39af728e72c50d93aba46fa424e27739414584e8ce23c6231bf479036888a2b", func := "example.com/replyd/replyd/zzlaws_providers_b1.FnCompletionMessagesContextAndInsert", spec := "fnCompletionMessagesContextAndInsert", apart := false }
def FnCompletionMessagesContextAndInsertSaid : Prop := fnCompletionMessagesContextAndInsertRow.holds Try.pinned (OpenSpec.ofChange fnCompletionMessagesContextAndInsertSpec)

/-- ITS FALSE NEIGHBOUR: 'it returns false'. Refute it at one input. -/
def fnCompletionMessagesContextAndInsertWrong : ChangeSpec := { name := "fnCompletionMessagesContextAndInsert", fn := fun _ => fun
  | [d1, d2, d3, d4, d5] => { results := [.lit (.bool false)], args := [d1, d2, d3, d4, d5] }
  | _ => none }
def FnCompletionMessagesContextAndInsertWrongFalsely : Prop := fnCompletionMessagesContextAndInsertRow.holds Try.pinned (OpenSpec.ofChange fnCompletionMessagesContextAndInsertWrong)

end Rows
end Go.Proofs.Qxb6630294a
