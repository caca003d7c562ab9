/-
  NARROWER THAN 'FOR EVERY INPUT', by the rows' own cells (each row's printed sentence says how): FnIsGlobstarByCount: laid · FnIsGlobstarDoubled: laid.
  DERIVED. THE GIVEN ROWS OF THIS SEAT. 2 by the template 'for every input the law returns true; each argument reads behind the call as it read before'; 0 by the template 'total and deterministic' (their statements: Qxb6612304aDoorTotals.lean).
  GIVEN WITH THE SEED: the statements are not yours to turn. If you find one false, say at which input.
  Laid BY PROGRAM, IN A SANDBOX (cutbox-rows.mjs): the forced cells as the released guide's own fill.sh prints them over the translation 31bb5f62020a7450… (all of the seat's roots in one cut). By AI agents, Wed Nov 11 2026. No macro, syntax, notation, axiom, sorry.
-/
import Derived.Test.Qxb6612304aDoorChecked
import GoSem.PinnedTables
import GoSem.Claim
import GoSem.ClaimJoined
import GoSem.ClaimMapViews
import Derived.JoinedTies
import Derived.KernelRfl
namespace Go.Proofs.Qxb6612304aDoor
/- THE CELL 'sum', in the pinned program and in every row, IS THE sha256 OF THE DUMP (.gsa) THAT Qxb6612304aDoorProg.lean LOADS. Nothing in Lean hashes anything: it is a label: what it is worth is what the hold of that sum in a sandbox is worth. -/
noncomputable def Tryd.pinned : Pinned := { name := "qxb6612304adoor", sum := "31bb5f62020a745095e29e03a83f7d42258b02a602b6a4b81ab086bb5692758f", checked := Tryd.checked }
namespace Rows
def none {H : Type} : Left H := { results := [], args := [] }

/- WHAT THE LISTED PACKAGE-LEVEL VARIABLES READ AS WHEN THE CALL BEGINS. Each datum BY PROGRAM (the guide's laid-datum.mjs) off the statement by which the dump's own 'gosem.cut.vars' lays the variable. In a bare row this is a premise. The card (Qxb6612304aDoorCards.lean) ties it to the program's text. -/
def laid_unicode_utf8_acceptRanges {H : Type} : DataW H := .agg [.agg [.lit (.int .u8 128), .lit (.int .u8 191)], .agg [.lit (.int .u8 160), .lit (.int .u8 191)], .agg [.lit (.int .u8 128), .lit (.int .u8 159)], .agg [.lit (.int .u8 144), .lit (.int .u8 191)], .agg [.lit (.int .u8 128), .lit (.int .u8 143)], .agg [.lit (.int .u8 0), .lit (.int .u8 0)], .agg [.lit (.int .u8 0), .lit (.int .u8 0)], .agg [.lit (.int .u8 0), .lit (.int .u8 0)], .agg [.lit (.int .u8 0), .lit (.int .u8 0)], .agg [.lit (.int .u8 0), .lit (.int .u8 0)], .agg [.lit (.int .u8 0), .lit (.int .u8 0)], .agg [.lit (.int .u8 0), .lit (.int .u8 0)], .agg [.lit (.int .u8 0), .lit (.int .u8 0)], .agg [.lit (.int .u8 0), .lit (.int .u8 0)], .agg [.lit (.int .u8 0), .lit (.int .u8 0)], .agg [.lit (.int .u8 0), .lit (.int .u8 0)]]
/-- One of Go's own tables, pinned by name: the form's constant. -/
def laid_unicode_utf8_first : DataW Unit := Go.Pinned.utf8First

/-- 'zzlaws_internal_git_b1.FnIsGlobstarByCount': WHATEVER THE INPUT: true; the input reads as it did. -/
def fnIsGlobstarByCountSpec : ChangeSpec := { name := "fnIsGlobstarByCount", fn := fun _ => fun
  | [d] => { results := [.lit (.bool true)], args := [d] }
  | _ => none }
def fnIsGlobstarByCountRow : OpenClaim := { program := "qxb6612304adoor", sum := "31bb5f62020a745095e29e03a83f7d42258b02a602b6a4b81ab086bb5692758f", func := "example.com/loopwright/loopwright/zzlaws_internal_git_b1.FnIsGlobstarByCount", spec := "fnIsGlobstarByCount", inPlace := ["internal/bytealg.IndexByteString", "internal/bytealg.IndexString"], named := ["unicode/utf8.first", "unicode/utf8.acceptRanges", "internal/bytealg.MaxLen"], apart := false, laid := [("unicode/utf8.acceptRanges", laid_unicode_utf8_acceptRanges), ("unicode/utf8.first", laid_unicode_utf8_first)] }
def FnIsGlobstarByCountSaid : Prop := fnIsGlobstarByCountRow.holds Tryd.pinned (OpenSpec.ofChange fnIsGlobstarByCountSpec)

/-- ITS FALSE NEIGHBOUR: 'it returns false'. Refute it at one input. -/
def fnIsGlobstarByCountWrong : ChangeSpec := { name := "fnIsGlobstarByCount", fn := fun _ => fun
  | [d] => { results := [.lit (.bool false)], args := [d] }
  | _ => none }
def FnIsGlobstarByCountWrongFalsely : Prop := fnIsGlobstarByCountRow.holds Tryd.pinned (OpenSpec.ofChange fnIsGlobstarByCountWrong)

/-- 'zzlaws_internal_git_b1.FnIsGlobstarDoubled': WHATEVER THE INPUT: true; the input reads as it did. -/
def fnIsGlobstarDoubledSpec : ChangeSpec := { name := "fnIsGlobstarDoubled", fn := fun _ => fun
  | [d] => { results := [.lit (.bool true)], args := [d] }
  | _ => none }
def fnIsGlobstarDoubledRow : OpenClaim := { program := "qxb6612304adoor", sum := "31bb5f62020a745095e29e03a83f7d42258b02a602b6a4b81ab086bb5692758f", func := "example.com/loopwright/loopwright/zzlaws_internal_git_b1.FnIsGlobstarDoubled", spec := "fnIsGlobstarDoubled", inPlace := ["internal/bytealg.IndexByteString", "internal/bytealg.IndexString"], named := ["unicode/utf8.first", "unicode/utf8.acceptRanges", "internal/bytealg.MaxLen"], apart := false, laid := [("unicode/utf8.acceptRanges", laid_unicode_utf8_acceptRanges), ("unicode/utf8.first", laid_unicode_utf8_first)] }
def FnIsGlobstarDoubledSaid : Prop := fnIsGlobstarDoubledRow.holds Tryd.pinned (OpenSpec.ofChange fnIsGlobstarDoubledSpec)

/-- ITS FALSE NEIGHBOUR: 'it returns false'. Refute it at one input. -/
def fnIsGlobstarDoubledWrong : ChangeSpec := { name := "fnIsGlobstarDoubled", fn := fun _ => fun
  | [d] => { results := [.lit (.bool false)], args := [d] }
  | _ => none }
def FnIsGlobstarDoubledWrongFalsely : Prop := fnIsGlobstarDoubledRow.holds Tryd.pinned (OpenSpec.ofChange fnIsGlobstarDoubledWrong)

end Rows
end Go.Proofs.Qxb6612304aDoor
