/-
  No cell of these rows narrows 'for every input' (looked for: loops, veiled, ifaces, maps, wideKeys, modest, calm, conditions, laid).
  DERIVED. THE GIVEN ROWS OF THIS SEAT. 2 by the template 'for every input the law returns true; each argument reads behind the call as it read before'; 0 by the template 'total and deterministic' (their statements: Qxb6630387aTotals.lean).
  GIVEN WITH THE SEED: the statements are not yours to turn. If you find one false, say at which input.
  Laid BY PROGRAM, IN A SANDBOX (cutbox-rows.mjs): the forced cells as the released guide's own fill.sh prints them over the translation 54a4d9e78a074dd1… (all of the seat's roots in one cut). By AI agents, Wed Nov 11 2026. No macro, syntax, notation, axiom, sorry.
-/
import Derived.Test.Qxb6630387aChecked
import GoSem.Claim
import GoSem.ClaimJoined
import GoSem.ClaimMapViews
import Derived.JoinedTies
import Derived.KernelRfl
namespace Go.Proofs.Qxb6630387a
/- THE CELL 'sum', in the pinned program and in every row, IS THE sha256 OF THE DUMP (.gsa) THAT Qxb6630387aProg.lean LOADS. Nothing in Lean hashes anything: it is a label: what it is worth is what the hold of that sum in a sandbox is worth. -/
noncomputable def Try.pinned : Pinned := { name := "qxb6630387a", sum := "54a4d9e78a074dd199e6053ea10d7e31dd8cfe36e2d753cec8c73ce1dd963beb", checked := Try.checked }
namespace Rows
def none {H : Type} : Left H := { results := [], args := [] }

/-- 'zzlaws_internal_decimal_b1.FnParseAcceptsExactlyDecimalSpellings': WHATEVER THE INPUT: true; the input reads as it did. -/
def fnParseAcceptsExactlyDecimalSpellingsSpec : ChangeSpec := { name := "fnParseAcceptsExactlyDecimalSpellings", fn := fun _ => fun
  | [d] => { results := [.lit (.bool true)], args := [d] }
  | _ => none }
def fnParseAcceptsExactlyDecimalSpellingsRow : OpenClaim := { program := "qxb6630387a", sum := "54a4d9e78a074dd199e6053ea10d7e31dd8cfe36e2d753cec8c73ce1dd963beb", func := "example.com/stillheap/stillheap/zzlaws_internal_decimal_b1.FnParseAcceptsExactlyDecimalSpellings", spec := "fnParseAcceptsExactlyDecimalSpellings", apart := false }
def FnParseAcceptsExactlyDecimalSpellingsSaid : Prop := fnParseAcceptsExactlyDecimalSpellingsRow.holds Try.pinned (OpenSpec.ofChange fnParseAcceptsExactlyDecimalSpellingsSpec)

/-- ITS FALSE NEIGHBOUR: 'it returns false'. Refute it at one input. -/
def fnParseAcceptsExactlyDecimalSpellingsWrong : ChangeSpec := { name := "fnParseAcceptsExactlyDecimalSpellings", fn := fun _ => fun
  | [d] => { results := [.lit (.bool false)], args := [d] }
  | _ => none }
def FnParseAcceptsExactlyDecimalSpellingsWrongFalsely : Prop := fnParseAcceptsExactlyDecimalSpellingsRow.holds Try.pinned (OpenSpec.ofChange fnParseAcceptsExactlyDecimalSpellingsWrong)

/-- 'zzlaws_internal_decimal_b1.FnParseReadsBackEverySpelling': WHATEVER THE INPUT: true; the input reads as it did. -/
def fnParseReadsBackEverySpellingSpec : ChangeSpec := { name := "fnParseReadsBackEverySpelling", fn := fun _ => fun
  | [d] => { results := [.lit (.bool true)], args := [d] }
  | _ => none }
def fnParseReadsBackEverySpellingRow : OpenClaim := { program := "qxb6630387a", sum := "54a4d9e78a074dd199e6053ea10d7e31dd8cfe36e2d753cec8c73ce1dd963beb", func := "example.com/stillheap/stillheap/zzlaws_internal_decimal_b1.FnParseReadsBackEverySpelling", spec := "fnParseReadsBackEverySpelling", apart := false }
def FnParseReadsBackEverySpellingSaid : Prop := fnParseReadsBackEverySpellingRow.holds Try.pinned (OpenSpec.ofChange fnParseReadsBackEverySpellingSpec)

/-- ITS FALSE NEIGHBOUR: 'it returns false'. Refute it at one input. -/
def fnParseReadsBackEverySpellingWrong : ChangeSpec := { name := "fnParseReadsBackEverySpelling", fn := fun _ => fun
  | [d] => { results := [.lit (.bool false)], args := [d] }
  | _ => none }
def FnParseReadsBackEverySpellingWrongFalsely : Prop := fnParseReadsBackEverySpellingRow.holds Try.pinned (OpenSpec.ofChange fnParseReadsBackEverySpellingWrong)

end Rows
end Go.Proofs.Qxb6630387a
