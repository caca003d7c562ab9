/-
  DERIVED. GIVEN WITH THE SEED: THE CARDS: each row of Qxb6613464aFmtRows.lean that lists a variable, with what it lists TIED to the program's text (the seventh form; the later family's looks); each row that meets fmt, with fmt's text TOLD by the authors' own Lean function (tested against real Go, not proved from fmt's source: count such statements apart). THE CARD IS WHAT COUNTS. Prove the row's statement (the work); the ties are given (Qxb6613464aFmtTie.lean); close each card by the builder's one call (the guide's Derived/Test/ToyasCard.lean, 'card_holds'). Laid BY PROGRAM, IN A SANDBOX (cutbox-door.mjs). By AI agents, Wed Nov 11 2026. No macro, syntax, notation, axiom, sorry.
-/
import Derived.Test.Qxb6613464aFmtRows
import GoSem.ClaimSeven
namespace Go.Proofs.Qxb6613464aFmt
namespace Rows

/-- THE TOLD AND TIED CARD OF 'zzlaws_desc_b1.FnLenTargetParentPrefixStepsUp'. -/
def fnLenTargetParentPrefixStepsUpCard : Claim7 := { stood := { row := fnLenTargetParentPrefixStepsUpRow, standIns := [], harness := (true, "c9e922211315b6e80a82742ebcb88dc6dbf8b52185e137ea660e10708e3c76de"), looks := false }, told := true, laidByText := true, laidKinds := [.data, .data, .data, .data, .pinned, .pinned, .pinned, .pinned, .pinned, .pinned], laidTests := true, laidLooks := .later, goes := false }
def FnLenTargetParentPrefixStepsUpToldSaid : Prop := Claim7.holds Tryf.pinned (.plain (OpenSpec.ofChange fnLenTargetParentPrefixStepsUpSpec)) fnLenTargetParentPrefixStepsUpCard
/-- ITS FALSE NEIGHBOUR. Refute it at one input. -/
def FnLenTargetParentPrefixStepsUpToldWrongFalsely : Prop := Claim7.holds Tryf.pinned (.plain (OpenSpec.ofChange fnLenTargetParentPrefixStepsUpWrong)) fnLenTargetParentPrefixStepsUpCard
end Rows
end Go.Proofs.Qxb6613464aFmt
