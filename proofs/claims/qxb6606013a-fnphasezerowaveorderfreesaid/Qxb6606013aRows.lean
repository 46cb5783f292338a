/-
  No cell of these rows narrows 'for every input' (looked for: loops, veiled, ifaces, maps, wideKeys, modest, calm, conditions, laid).
  DERIVED. THE GIVEN ROWS OF THIS SEAT. 1 by the template 'for every input the law returns true; each argument reads behind the call as it read before'; 0 by the template 'total and deterministic' (their statements: Qxb6606013aTotals.lean).
  GIVEN WITH THE SEED: the statements are not yours to turn. If you find one false, say at which input.
  Laid BY PROGRAM, IN A SANDBOX (cutbox-rows.mjs): the forced cells as the released guide's own fill.sh prints them over the translation f37c6f80e842221e… (all of the seat's roots in one cut). By AI agents, Wed Nov 11 2026. No macro, syntax, notation, axiom, sorry.
-/
import Derived.Test.Qxb6606013aChecked
import GoSem.Claim
import GoSem.ClaimJoined
import GoSem.ClaimMapViews
import Derived.JoinedTies
import Derived.KernelRfl
namespace Go.Proofs.Qxb6606013a
/- THE CELL 'sum', in the pinned program and in every row, IS THE sha256 OF THE DUMP (.gsa) THAT Qxb6606013aProg.lean LOADS. Nothing in Lean hashes anything: it is a label: what it is worth is what the hold of that sum in a sandbox is worth. -/
noncomputable def Try.pinned : Pinned := { name := "qxb6606013a", sum := "f37c6f80e842221ec392daf508b0b84ed8f0f6c3deea48200c3e1f3bf779085a", checked := Try.checked }
namespace Rows
def none {H : Type} : Left H := { results := [], args := [] }

/-- 'zzlaws_pkg_engine_b1.FnPhaseZeroWaveOrderFree': WHATEVER THE INPUT: true; the input reads as it did. -/
def fnPhaseZeroWaveOrderFreeSpec : ChangeSpec := { name := "fnPhaseZeroWaveOrderFree", fn := fun _ => fun
  | [d1, d2, d3, d4, d5, d6, d7, d8, d9, d10] => { results := [.lit (.bool true)], args := [d1, d2, d3, d4, d5, d6, d7, d8, d9, d10] }
  | _ => none }
def fnPhaseZeroWaveOrderFreeRow : OpenClaim := { program := "qxb6606013a", sum := "f37c6f80e842221ec392daf508b0b84ed8f0f6c3deea48200c3e1f3bf779085a", func := "example.com/coordinal/coordinal/zzlaws_pkg_engine_b1.FnPhaseZeroWaveOrderFree", spec := "fnPhaseZeroWaveOrderFree", unfollowed := true, recurses := true, apart := false }
def FnPhaseZeroWaveOrderFreeSaid : Prop := fnPhaseZeroWaveOrderFreeRow.holds Try.pinned (OpenSpec.ofChange fnPhaseZeroWaveOrderFreeSpec)

/-- ITS FALSE NEIGHBOUR: 'it returns false'. Refute it at one input. -/
def fnPhaseZeroWaveOrderFreeWrong : ChangeSpec := { name := "fnPhaseZeroWaveOrderFree", fn := fun _ => fun
  | [d1, d2, d3, d4, d5, d6, d7, d8, d9, d10] => { results := [.lit (.bool false)], args := [d1, d2, d3, d4, d5, d6, d7, d8, d9, d10] }
  | _ => none }
def FnPhaseZeroWaveOrderFreeWrongFalsely : Prop := fnPhaseZeroWaveOrderFreeRow.holds Try.pinned (OpenSpec.ofChange fnPhaseZeroWaveOrderFreeWrong)

end Rows
end Go.Proofs.Qxb6606013a
