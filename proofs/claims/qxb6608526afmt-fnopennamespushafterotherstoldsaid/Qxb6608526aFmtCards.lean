/-
  DERIVED. GIVEN WITH THE SEED: THE CARDS: each row of Qxb6608526aFmtRows.lean that lists a variable, with what it lists TIED to the program's text (the seventh form; the later family's looks); each row that meets fmt, with fmt's text TOLD by the authors' own Lean function (tested against real Go, not proved from fmt's source: count such statements apart). THE CARD IS WHAT COUNTS. Prove the row's statement (the work); the ties are given (Qxb6608526aFmtTie.lean); close each card by the builder's one call (the guide's Derived/Test/ToyasCard.lean, 'card_holds'). Laid BY PROGRAM, IN A SANDBOX (cutbox-door.mjs). By AI agents, Wed Nov 11 2026. No macro, syntax, notation, axiom, sorry.
-/
import Derived.Test.Qxb6608526aFmtRows
import GoSem.ClaimSeven
namespace Go.Proofs.Qxb6608526aFmt
namespace Rows

/-- THE TOLD CARD OF 'zzlaws_internal_xmlstream_b1.FnOpenNamesPushKeepsEachName'. -/
def fnOpenNamesPushKeepsEachNameCard : Claim7 := { stood := { row := fnOpenNamesPushKeepsEachNameRow, standIns := [], harness := (true, "a6337ed52015df30c4406c9cb29b4af8635074c1ff93ab4844b1e9707a2e4f0a"), looks := false }, told := true, goes := false }
def FnOpenNamesPushKeepsEachNameToldSaid : Prop := Claim7.holds Tryf.pinned (.plain (OpenSpec.ofChange fnOpenNamesPushKeepsEachNameSpec)) fnOpenNamesPushKeepsEachNameCard
/-- ITS FALSE NEIGHBOUR. Refute it at one input. -/
def FnOpenNamesPushKeepsEachNameToldWrongFalsely : Prop := Claim7.holds Tryf.pinned (.plain (OpenSpec.ofChange fnOpenNamesPushKeepsEachNameWrong)) fnOpenNamesPushKeepsEachNameCard

/-- THE TOLD CARD OF 'zzlaws_internal_xmlstream_b1.FnOpenNamesPushAfterOthers'. -/
def fnOpenNamesPushAfterOthersCard : Claim7 := { stood := { row := fnOpenNamesPushAfterOthersRow, standIns := [], harness := (true, "a6337ed52015df30c4406c9cb29b4af8635074c1ff93ab4844b1e9707a2e4f0a"), looks := false }, told := true, goes := false }
def FnOpenNamesPushAfterOthersToldSaid : Prop := Claim7.holds Tryf.pinned (.plain (OpenSpec.ofChange fnOpenNamesPushAfterOthersSpec)) fnOpenNamesPushAfterOthersCard
/-- ITS FALSE NEIGHBOUR. Refute it at one input. -/
def FnOpenNamesPushAfterOthersToldWrongFalsely : Prop := Claim7.holds Tryf.pinned (.plain (OpenSpec.ofChange fnOpenNamesPushAfterOthersWrong)) fnOpenNamesPushAfterOthersCard
end Rows
end Go.Proofs.Qxb6608526aFmt
