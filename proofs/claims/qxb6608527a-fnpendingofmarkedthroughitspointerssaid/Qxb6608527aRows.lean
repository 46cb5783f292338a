/-
  No cell of these rows narrows 'for every input' (looked for: loops, veiled, ifaces, maps, wideKeys, modest, calm, conditions, laid).
  DERIVED. THE GIVEN ROWS OF THIS SEAT. 3 by the template 'for every input the law returns true; each argument reads behind the call as it read before'; 0 by the template 'total and deterministic' (their statements: Qxb6608527aTotals.lean).
  GIVEN WITH THE SEED: the statements are not yours to turn. If you find one false, say at which input.
  Laid BY PROGRAM, IN A SANDBOX (cutbox-rows.mjs): the forced cells as the released guide's own fill.sh prints them over the translation cd70fc1ab519c99a… (all of the seat's roots in one cut). By AI agents, Wed Nov 11 2026. No macro, syntax, notation, axiom, sorry.
-/
import Derived.Test.Qxb6608527aChecked
import GoSem.Claim
import GoSem.ClaimJoined
import GoSem.ClaimMapViews
import Derived.JoinedTies
import Derived.KernelRfl
namespace Go.Proofs.Qxb6608527a
/- THE CELL 'sum', in the pinned program and in every row, IS THE sha256 OF THE DUMP (.gsa) THAT Qxb6608527aProg.lean LOADS. Nothing in Lean hashes anything: it is a label: what it is worth is what the hold of that sum in a sandbox is worth. -/
noncomputable def Try.pinned : Pinned := { name := "qxb6608527a", sum := "cd70fc1ab519c99ad9167324c9a1d78a051a477a56a9ba9d0ef98c88b284afe4", checked := Try.checked }
namespace Rows
def none {H : Type} : Left H := { results := [], args := [] }

/-- 'zzlaws_delivery_b1.FnEarliestFoldIsLeastNonzero': WHATEVER THE INPUT: true; the input reads as it did. -/
def fnEarliestFoldIsLeastNonzeroSpec : ChangeSpec := { name := "fnEarliestFoldIsLeastNonzero", fn := fun _ => fun
  | [d] => { results := [.lit (.bool true)], args := [d] }
  | _ => none }
def fnEarliestFoldIsLeastNonzeroRow : OpenClaim := { program := "qxb6608527a", sum := "cd70fc1ab519c99ad9167324c9a1d78a051a477a56a9ba9d0ef98c88b284afe4", func := "example.com/relaylark/relaylark/zzlaws_delivery_b1.FnEarliestFoldIsLeastNonzero", spec := "fnEarliestFoldIsLeastNonzero", apart := false }
def FnEarliestFoldIsLeastNonzeroSaid : Prop := fnEarliestFoldIsLeastNonzeroRow.holds Try.pinned (OpenSpec.ofChange fnEarliestFoldIsLeastNonzeroSpec)

/-- ITS FALSE NEIGHBOUR: 'it returns false'. Refute it at one input. -/
def fnEarliestFoldIsLeastNonzeroWrong : ChangeSpec := { name := "fnEarliestFoldIsLeastNonzero", fn := fun _ => fun
  | [d] => { results := [.lit (.bool false)], args := [d] }
  | _ => none }
def FnEarliestFoldIsLeastNonzeroWrongFalsely : Prop := fnEarliestFoldIsLeastNonzeroRow.holds Try.pinned (OpenSpec.ofChange fnEarliestFoldIsLeastNonzeroWrong)

/-- 'zzlaws_delivery_b1.FnEarliestOfJoinedListsAtAnyCut': WHATEVER THE INPUT: true; the input reads as it did. -/
def fnEarliestOfJoinedListsAtAnyCutSpec : ChangeSpec := { name := "fnEarliestOfJoinedListsAtAnyCut", fn := fun _ => fun
  | [d1, d2] => { results := [.lit (.bool true)], args := [d1, d2] }
  | _ => none }
def fnEarliestOfJoinedListsAtAnyCutRow : OpenClaim := { program := "qxb6608527a", sum := "cd70fc1ab519c99ad9167324c9a1d78a051a477a56a9ba9d0ef98c88b284afe4", func := "example.com/relaylark/relaylark/zzlaws_delivery_b1.FnEarliestOfJoinedListsAtAnyCut", spec := "fnEarliestOfJoinedListsAtAnyCut", apart := false }
def FnEarliestOfJoinedListsAtAnyCutSaid : Prop := fnEarliestOfJoinedListsAtAnyCutRow.holds Try.pinned (OpenSpec.ofChange fnEarliestOfJoinedListsAtAnyCutSpec)

/-- ITS FALSE NEIGHBOUR: 'it returns false'. Refute it at one input. -/
def fnEarliestOfJoinedListsAtAnyCutWrong : ChangeSpec := { name := "fnEarliestOfJoinedListsAtAnyCut", fn := fun _ => fun
  | [d1, d2] => { results := [.lit (.bool false)], args := [d1, d2] }
  | _ => none }
def FnEarliestOfJoinedListsAtAnyCutWrongFalsely : Prop := fnEarliestOfJoinedListsAtAnyCutRow.holds Try.pinned (OpenSpec.ofChange fnEarliestOfJoinedListsAtAnyCutWrong)

/-- 'zzlaws_delivery_b1.FnPendingOfMarkedThroughItsPointers': WHATEVER THE INPUT: true; the input reads as it did. -/
def fnPendingOfMarkedThroughItsPointersSpec : ChangeSpec := { name := "fnPendingOfMarkedThroughItsPointers", fn := fun _ => fun
  | [d1, d2] => { results := [.lit (.bool true)], args := [d1, d2] }
  | _ => none }
def fnPendingOfMarkedThroughItsPointersRow : OpenClaim := { program := "qxb6608527a", sum := "cd70fc1ab519c99ad9167324c9a1d78a051a477a56a9ba9d0ef98c88b284afe4", func := "example.com/relaylark/relaylark/zzlaws_delivery_b1.FnPendingOfMarkedThroughItsPointers", spec := "fnPendingOfMarkedThroughItsPointers", apart := false }
def FnPendingOfMarkedThroughItsPointersSaid : Prop := fnPendingOfMarkedThroughItsPointersRow.holds Try.pinned (OpenSpec.ofChange fnPendingOfMarkedThroughItsPointersSpec)

/-- ITS FALSE NEIGHBOUR: 'it returns false'. Refute it at one input. -/
def fnPendingOfMarkedThroughItsPointersWrong : ChangeSpec := { name := "fnPendingOfMarkedThroughItsPointers", fn := fun _ => fun
  | [d1, d2] => { results := [.lit (.bool false)], args := [d1, d2] }
  | _ => none }
def FnPendingOfMarkedThroughItsPointersWrongFalsely : Prop := fnPendingOfMarkedThroughItsPointersRow.holds Try.pinned (OpenSpec.ofChange fnPendingOfMarkedThroughItsPointersWrong)

end Rows
end Go.Proofs.Qxb6608527a
