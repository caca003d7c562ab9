/-
  DERIVED. GIVEN WITH THE SEED: THE CARDS: each row of Qxb6612304aDoorRows.lean that lists a variable, with what it lists TIED to the program's text (the seventh form; the later family's looks); each row that meets fmt, with fmt's text TOLD by the authors' own Lean function (tested against real Go, not proved from fmt's source: count such statements apart). THE CARD IS WHAT COUNTS. Prove the row's statement (the work); the ties are given (Qxb6612304aDoorTie.lean); close each card by the builder's one call (the guide's Derived/Test/ToyasCard.lean, 'card_holds'). Laid BY PROGRAM, IN A SANDBOX (cutbox-door.mjs). By AI agents, Wed Nov 11 2026. No macro, syntax, notation, axiom, sorry.
-/
import Derived.Test.Qxb6612304aDoorRows
import GoSem.ClaimSeven
namespace Go.Proofs.Qxb6612304aDoor
namespace Rows

/-- THE TIED CARD OF 'zzlaws_internal_git_b1.FnIsGlobstarByCount'. -/
def fnIsGlobstarByCountCard : Claim7 := { stood := { row := fnIsGlobstarByCountRow, standIns := [], harness := (true, "188ba98d44b32abd000222f35b0a66fb83f980382544838bf2c72abb65b3f713"), looks := false }, kinds := [], alts := [], laidByText := true, laidKinds := [.data, .pinned], laidTests := true, laidLooks := .later }
def FnIsGlobstarByCountCardSaid : Prop := Claim7.holds Tryd.pinned (.plain (OpenSpec.ofChange fnIsGlobstarByCountSpec)) fnIsGlobstarByCountCard

/-- THE TIED CARD OF 'zzlaws_internal_git_b1.FnIsGlobstarDoubled'. -/
def fnIsGlobstarDoubledCard : Claim7 := { stood := { row := fnIsGlobstarDoubledRow, standIns := [], harness := (true, "188ba98d44b32abd000222f35b0a66fb83f980382544838bf2c72abb65b3f713"), looks := false }, kinds := [], alts := [], laidByText := true, laidKinds := [.data, .pinned], laidTests := true, laidLooks := .later }
def FnIsGlobstarDoubledCardSaid : Prop := Claim7.holds Tryd.pinned (.plain (OpenSpec.ofChange fnIsGlobstarDoubledSpec)) fnIsGlobstarDoubledCard
end Rows
end Go.Proofs.Qxb6612304aDoor
