/-
  No cell of these rows narrows 'for every input' (looked for: loops, veiled, ifaces, maps, wideKeys, modest, calm, conditions, laid).
  DERIVED. THE GIVEN ROWS OF THIS SEAT. 3 by the template 'for every input the law returns true; each argument reads behind the call as it read before'; 0 by the template 'total and deterministic' (their statements: Qxb6605894aTotals.lean).
  GIVEN WITH THE SEED: the statements are not yours to turn. If you find one false, say at which input.
  Laid BY PROGRAM, IN A SANDBOX (cutbox-rows.mjs): the forced cells as the released guide's own fill.sh prints them over the translation af7778c097dd94c8… (all of the seat's roots in one cut). By AI agents, Wed Nov 11 2026. No macro, syntax, notation, axiom, sorry.
-/
import Derived.Test.Qxb6605894aChecked
import GoSem.Claim
import GoSem.ClaimJoined
import GoSem.ClaimMapViews
import Derived.JoinedTies
import Derived.KernelRfl
namespace Go.Proofs.Qxb6605894a
/- THE CELL 'sum', in the pinned program and in every row, IS THE sha256 OF THE DUMP (.gsa) THAT Qxb6605894aProg.lean LOADS. Nothing in Lean hashes anything: it is a label: what it is worth is what the hold of that sum in a sandbox is worth. -/
noncomputable def Try.pinned : Pinned := { name := "qxb6605894a", sum := "af7778c097dd94c81629b41378958dd172e814c2a17f21adf632af9aad52b156", checked := Try.checked }
namespace Rows
def none {H : Type} : Left H := { results := [], args := [] }

/-- 'zzlaws_internal_vss_b1.FnMaxStatementsFloorAndSaturation': WHATEVER THE INPUT: true; the input reads as it did. -/
def fnMaxStatementsFloorAndSaturationSpec : ChangeSpec := { name := "fnMaxStatementsFloorAndSaturation", fn := fun _ => fun
  | [d1, d2] => { results := [.lit (.bool true)], args := [d1, d2] }
  | _ => none }
def fnMaxStatementsFloorAndSaturationRow : OpenClaim := { program := "qxb6605894a", sum := "af7778c097dd94c81629b41378958dd172e814c2a17f21adf632af9aad52b156", func := "example.com/concordat/concordat/zzlaws_internal_vss_b1.FnMaxStatementsFloorAndSaturation", spec := "fnMaxStatementsFloorAndSaturation", apart := false }
def FnMaxStatementsFloorAndSaturationSaid : Prop := fnMaxStatementsFloorAndSaturationRow.holds Try.pinned (OpenSpec.ofChange fnMaxStatementsFloorAndSaturationSpec)

/-- ITS FALSE NEIGHBOUR: 'it returns false'. Refute it at one input. -/
def fnMaxStatementsFloorAndSaturationWrong : ChangeSpec := { name := "fnMaxStatementsFloorAndSaturation", fn := fun _ => fun
  | [d1, d2] => { results := [.lit (.bool false)], args := [d1, d2] }
  | _ => none }
def FnMaxStatementsFloorAndSaturationWrongFalsely : Prop := fnMaxStatementsFloorAndSaturationRow.holds Try.pinned (OpenSpec.ofChange fnMaxStatementsFloorAndSaturationWrong)

/-- 'zzlaws_internal_vss_b1.FnMaxStatementsStepPerSharing': WHATEVER THE INPUT: true; the input reads as it did. -/
def fnMaxStatementsStepPerSharingSpec : ChangeSpec := { name := "fnMaxStatementsStepPerSharing", fn := fun _ => fun
  | [d1, d2] => { results := [.lit (.bool true)], args := [d1, d2] }
  | _ => none }
def fnMaxStatementsStepPerSharingRow : OpenClaim := { program := "qxb6605894a", sum := "af7778c097dd94c81629b41378958dd172e814c2a17f21adf632af9aad52b156", func := "example.com/concordat/concordat/zzlaws_internal_vss_b1.FnMaxStatementsStepPerSharing", spec := "fnMaxStatementsStepPerSharing", apart := false }
def FnMaxStatementsStepPerSharingSaid : Prop := fnMaxStatementsStepPerSharingRow.holds Try.pinned (OpenSpec.ofChange fnMaxStatementsStepPerSharingSpec)

/-- ITS FALSE NEIGHBOUR: 'it returns false'. Refute it at one input. -/
def fnMaxStatementsStepPerSharingWrong : ChangeSpec := { name := "fnMaxStatementsStepPerSharing", fn := fun _ => fun
  | [d1, d2] => { results := [.lit (.bool false)], args := [d1, d2] }
  | _ => none }
def FnMaxStatementsStepPerSharingWrongFalsely : Prop := fnMaxStatementsStepPerSharingRow.holds Try.pinned (OpenSpec.ofChange fnMaxStatementsStepPerSharingWrong)

/-- 'zzlaws_internal_vss_b1.FnReadSignatureTakesOwnPrefix': WHATEVER THE INPUT: true; the input reads as it did. -/
def fnReadSignatureTakesOwnPrefixSpec : ChangeSpec := { name := "fnReadSignatureTakesOwnPrefix", fn := fun _ => fun
  | [d1, d2] => { results := [.lit (.bool true)], args := [d1, d2] }
  | _ => none }
def fnReadSignatureTakesOwnPrefixRow : OpenClaim := { program := "qxb6605894a", sum := "af7778c097dd94c81629b41378958dd172e814c2a17f21adf632af9aad52b156", func := "example.com/concordat/concordat/zzlaws_internal_vss_b1.FnReadSignatureTakesOwnPrefix", spec := "fnReadSignatureTakesOwnPrefix", apart := false }
def FnReadSignatureTakesOwnPrefixSaid : Prop := fnReadSignatureTakesOwnPrefixRow.holds Try.pinned (OpenSpec.ofChange fnReadSignatureTakesOwnPrefixSpec)

/-- ITS FALSE NEIGHBOUR: 'it returns false'. Refute it at one input. -/
def fnReadSignatureTakesOwnPrefixWrong : ChangeSpec := { name := "fnReadSignatureTakesOwnPrefix", fn := fun _ => fun
  | [d1, d2] => { results := [.lit (.bool false)], args := [d1, d2] }
  | _ => none }
def FnReadSignatureTakesOwnPrefixWrongFalsely : Prop := fnReadSignatureTakesOwnPrefixRow.holds Try.pinned (OpenSpec.ofChange fnReadSignatureTakesOwnPrefixWrong)

end Rows
end Go.Proofs.Qxb6605894a
