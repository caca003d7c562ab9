/-
  DERIVED. GIVEN WITH THE SEED: THE CARDS: each row of Qxb6608748aFmtRows.lean that lists a variable, with what it lists TIED to the program's text (the seventh form; the later family's looks); each row that meets fmt, with fmt's text TOLD by the authors' own Lean function (tested against real Go, not proved from fmt's source: count such statements apart). THE CARD IS WHAT COUNTS. Prove the row's statement (the work); the ties are given (Qxb6608748aFmtTie.lean); close each card by the builder's one call (the guide's Derived/Test/ToyasCard.lean, 'card_holds'). Laid BY PROGRAM, IN A SANDBOX (cutbox-door.mjs). By AI agents, Wed Nov 11 2026. No macro, syntax, notation, axiom, sorry.
-/
import Derived.Test.Qxb6608748aFmtRows
import GoSem.ClaimSeven
namespace Go.Proofs.Qxb6608748aFmt
namespace Rows

/-- THE TOLD AND TIED CARD OF 'zzlaws_internal_engine_b1.FnTableKeyColumnNameLeadsBackToKey'. -/
def fnTableKeyColumnNameLeadsBackToKeyCard : Claim7 := { stood := { row := fnTableKeyColumnNameLeadsBackToKeyRow, standIns := [], harness := (true, "8eb74dd7bca97b694addf604c9d85bf37179ae28f7c9602891e3bbe70c8a2074"), looks := false }, told := true, laidByText := true, laidKinds := [.data, .sentinel, .pinned], laidTests := true, laidLooks := .later, goes := false }
def FnTableKeyColumnNameLeadsBackToKeyToldSaid : Prop := Claim7.holds Tryf.pinned (.plain (OpenSpec.ofChange fnTableKeyColumnNameLeadsBackToKeySpec)) fnTableKeyColumnNameLeadsBackToKeyCard
/-- ITS FALSE NEIGHBOUR. Refute it at one input. -/
def FnTableKeyColumnNameLeadsBackToKeyToldWrongFalsely : Prop := Claim7.holds Tryf.pinned (.plain (OpenSpec.ofChange fnTableKeyColumnNameLeadsBackToKeyWrong)) fnTableKeyColumnNameLeadsBackToKeyCard
end Rows
end Go.Proofs.Qxb6608748aFmt
