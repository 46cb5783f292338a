/-
  No cell of these rows narrows 'for every input' (looked for: loops, veiled, ifaces, maps, wideKeys, modest, calm, conditions, laid).
  DERIVED. THE GIVEN ROWS OF THIS SEAT. 2 by the template 'for every input the law returns true; each argument reads behind the call as it read before'; 0 by the template 'total and deterministic' (their statements: Qxb6608526aFmtTotals.lean).
  GIVEN WITH THE SEED: the statements are not yours to turn. If you find one false, say at which input.
  Laid BY PROGRAM, IN A SANDBOX (cutbox-rows.mjs): the forced cells as the released guide's own fill.sh prints them over the translation 14bcfaefb886b960… (all of the seat's roots in one cut). By AI agents, Wed Nov 11 2026. No macro, syntax, notation, axiom, sorry.
-/
import Derived.Test.Qxb6608526aFmtChecked
import GoSem.Claim
import GoSem.ClaimJoined
import GoSem.ClaimMapViews
import Derived.JoinedTies
import Derived.KernelRfl
namespace Go.Proofs.Qxb6608526aFmt
/- THE CELL 'sum', in the pinned program and in every row, IS THE sha256 OF THE DUMP (.gsa) THAT Qxb6608526aFmtProg.lean LOADS. Nothing in Lean hashes anything: it is a label: what it is worth is what the hold of that sum in a sandbox is worth. -/
noncomputable def Tryf.pinned : Pinned := { name := "qxb6608526afmt", sum := "14bcfaefb886b96022d719a88f8bcd31879701e2f8018f65872a9f7fe95e8981", checked := Tryf.checked }
namespace Rows
def none {H : Type} : Left H := { results := [], args := [] }

/-- 'zzlaws_internal_xmlstream_b1.FnOpenNamesPushKeepsEachName': WHATEVER THE INPUT: true; the input reads as it did. -/
def fnOpenNamesPushKeepsEachNameSpec : ChangeSpec := { name := "fnOpenNamesPushKeepsEachName", fn := fun _ => fun
  | [d1, d2] => { results := [.lit (.bool true)], args := [d1, d2] }
  | _ => none }
def fnOpenNamesPushKeepsEachNameRow : OpenClaim := { program := "qxb6608526afmt", sum := "14bcfaefb886b96022d719a88f8bcd31879701e2f8018f65872a9f7fe95e8981", func := "example.com/winnow/winnow/zzlaws_internal_xmlstream_b1.FnOpenNamesPushKeepsEachName", spec := "fnOpenNamesPushKeepsEachName", stops := ["fmt.errorf"], inPlace := ["fmt.errorf"], unfollowed := true, recurses := true, apart := false }
/-- NO THEOREM (fmt's text is open here; it may be false): for the released tool's asking of the row's closed facts alone. THE STATEMENT IS 'FnOpenNamesPushKeepsEachNameToldSaid' (Qxb6608526aFmtCards.lean). -/
def FnOpenNamesPushKeepsEachNameFormAsk : Prop := fnOpenNamesPushKeepsEachNameRow.holds Tryf.pinned (OpenSpec.ofChange fnOpenNamesPushKeepsEachNameSpec)

/-- ITS FALSE NEIGHBOUR: 'it returns false'. Refute it at one input. -/
def fnOpenNamesPushKeepsEachNameWrong : ChangeSpec := { name := "fnOpenNamesPushKeepsEachName", fn := fun _ => fun
  | [d1, d2] => { results := [.lit (.bool false)], args := [d1, d2] }
  | _ => none }
def FnOpenNamesPushKeepsEachNameWrongFormAsk : Prop := fnOpenNamesPushKeepsEachNameRow.holds Tryf.pinned (OpenSpec.ofChange fnOpenNamesPushKeepsEachNameWrong)

/-- 'zzlaws_internal_xmlstream_b1.FnOpenNamesPushAfterOthers': WHATEVER THE INPUT: true; the input reads as it did. -/
def fnOpenNamesPushAfterOthersSpec : ChangeSpec := { name := "fnOpenNamesPushAfterOthers", fn := fun _ => fun
  | [d1, d2, d3] => { results := [.lit (.bool true)], args := [d1, d2, d3] }
  | _ => none }
def fnOpenNamesPushAfterOthersRow : OpenClaim := { program := "qxb6608526afmt", sum := "14bcfaefb886b96022d719a88f8bcd31879701e2f8018f65872a9f7fe95e8981", func := "example.com/winnow/winnow/zzlaws_internal_xmlstream_b1.FnOpenNamesPushAfterOthers", spec := "fnOpenNamesPushAfterOthers", stops := ["fmt.errorf"], inPlace := ["fmt.errorf"], unfollowed := true, recurses := true, apart := false }
/-- NO THEOREM (fmt's text is open here; it may be false): for the released tool's asking of the row's closed facts alone. THE STATEMENT IS 'FnOpenNamesPushAfterOthersToldSaid' (Qxb6608526aFmtCards.lean). -/
def FnOpenNamesPushAfterOthersFormAsk : Prop := fnOpenNamesPushAfterOthersRow.holds Tryf.pinned (OpenSpec.ofChange fnOpenNamesPushAfterOthersSpec)

/-- ITS FALSE NEIGHBOUR: 'it returns false'. Refute it at one input. -/
def fnOpenNamesPushAfterOthersWrong : ChangeSpec := { name := "fnOpenNamesPushAfterOthers", fn := fun _ => fun
  | [d1, d2, d3] => { results := [.lit (.bool false)], args := [d1, d2, d3] }
  | _ => none }
def FnOpenNamesPushAfterOthersWrongFormAsk : Prop := fnOpenNamesPushAfterOthersRow.holds Tryf.pinned (OpenSpec.ofChange fnOpenNamesPushAfterOthersWrong)

end Rows
end Go.Proofs.Qxb6608526aFmt
