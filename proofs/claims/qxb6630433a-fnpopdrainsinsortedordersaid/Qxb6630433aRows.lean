/-
  No cell of these rows narrows 'for every input' (looked for: loops, veiled, ifaces, maps, wideKeys, modest, calm, conditions, laid).
  DERIVED. THE GIVEN ROWS OF THIS SEAT. 2 by the template 'for every input the law returns true; each argument reads behind the call as it read before'; 0 by the template 'total and deterministic' (their statements: Qxb6630433aTotals.lean).
  GIVEN WITH THE SEED: the statements are not yours to turn. If you find one false, say at which input.
  Laid BY PROGRAM, IN A SANDBOX (cutbox-rows.mjs): the forced cells as the released guide's own fill.sh prints them over the translation bdbfd31ddedb548e… (all of the seat's roots in one cut). By AI agents, Wed Nov 11 2026. No macro, syntax, notation, axiom, sorry.
-/
import Derived.Test.Qxb6630433aChecked
import GoSem.Claim
import GoSem.ClaimJoined
import GoSem.ClaimMapViews
import Derived.JoinedTies
import Derived.KernelRfl
namespace Go.Proofs.Qxb6630433a
/- THE CELL 'sum', in the pinned program and in every row, IS THE sha256 OF THE DUMP (.gsa) THAT Qxb6630433aProg.lean LOADS. Nothing in Lean hashes anything: it is a label: what it is worth is what the hold of that sum in a sandbox is worth. -/
noncomputable def Try.pinned : Pinned := { name := "qxb6630433a", sum := "bdbfd31ddedb548e50afd2c558051e8fe8c4db3e199a7db14e955ec6fb44aec7", checked := Try.checked }
namespace Rows
def none {H : Type} : Left H := { results := [], args := [] }

/-- 'zzlaws_internal_minheap_b1.FnPopTakesMinimumAndKeepsHeap': WHATEVER THE INPUT: true; the input reads as it did. -/
def fnPopTakesMinimumAndKeepsHeapSpec : ChangeSpec := { name := "fnPopTakesMinimumAndKeepsHeap", fn := fun _ => fun
  | [d] => { results := [.lit (.bool true)], args := [d] }
  | _ => none }
def fnPopTakesMinimumAndKeepsHeapRow : OpenClaim := { program := "qxb6630433a", sum := "bdbfd31ddedb548e50afd2c558051e8fe8c4db3e199a7db14e955ec6fb44aec7", func := "example.com/serialis/serialis/zzlaws_internal_minheap_b1.FnPopTakesMinimumAndKeepsHeap", spec := "fnPopTakesMinimumAndKeepsHeap", apart := false }
def FnPopTakesMinimumAndKeepsHeapSaid : Prop := fnPopTakesMinimumAndKeepsHeapRow.holds Try.pinned (OpenSpec.ofChange fnPopTakesMinimumAndKeepsHeapSpec)

/-- ITS FALSE NEIGHBOUR: 'it returns false'. Refute it at one input. -/
def fnPopTakesMinimumAndKeepsHeapWrong : ChangeSpec := { name := "fnPopTakesMinimumAndKeepsHeap", fn := fun _ => fun
  | [d] => { results := [.lit (.bool false)], args := [d] }
  | _ => none }
def FnPopTakesMinimumAndKeepsHeapWrongFalsely : Prop := fnPopTakesMinimumAndKeepsHeapRow.holds Try.pinned (OpenSpec.ofChange fnPopTakesMinimumAndKeepsHeapWrong)

/-- 'zzlaws_internal_minheap_b1.FnPopDrainsInSortedOrder': WHATEVER THE INPUT: true; the input reads as it did. -/
def fnPopDrainsInSortedOrderSpec : ChangeSpec := { name := "fnPopDrainsInSortedOrder", fn := fun _ => fun
  | [d] => { results := [.lit (.bool true)], args := [d] }
  | _ => none }
def fnPopDrainsInSortedOrderRow : OpenClaim := { program := "qxb6630433a", sum := "bdbfd31ddedb548e50afd2c558051e8fe8c4db3e199a7db14e955ec6fb44aec7", func := "example.com/serialis/serialis/zzlaws_internal_minheap_b1.FnPopDrainsInSortedOrder", spec := "fnPopDrainsInSortedOrder", apart := false }
def FnPopDrainsInSortedOrderSaid : Prop := fnPopDrainsInSortedOrderRow.holds Try.pinned (OpenSpec.ofChange fnPopDrainsInSortedOrderSpec)

/-- ITS FALSE NEIGHBOUR: 'it returns false'. Refute it at one input. -/
def fnPopDrainsInSortedOrderWrong : ChangeSpec := { name := "fnPopDrainsInSortedOrder", fn := fun _ => fun
  | [d] => { results := [.lit (.bool false)], args := [d] }
  | _ => none }
def FnPopDrainsInSortedOrderWrongFalsely : Prop := fnPopDrainsInSortedOrderRow.holds Try.pinned (OpenSpec.ofChange fnPopDrainsInSortedOrderWrong)

end Rows
end Go.Proofs.Qxb6630433a
