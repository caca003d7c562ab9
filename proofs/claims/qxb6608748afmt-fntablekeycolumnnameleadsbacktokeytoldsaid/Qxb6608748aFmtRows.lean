/-
  NARROWER THAN 'FOR EVERY INPUT', by the rows' own cells (each row's printed sentence says how): FnTableKeyColumnNameLeadsBackToKey: ifaces, laid.
  DERIVED. THE GIVEN ROWS OF THIS SEAT. 1 by the template 'for every input the law returns true; each argument reads behind the call as it read before'; 0 by the template 'total and deterministic' (their statements: Qxb6608748aFmtTotals.lean).
  GIVEN WITH THE SEED: the statements are not yours to turn. If you find one false, say at which input.
  Laid BY PROGRAM, IN A SANDBOX (cutbox-rows.mjs): the forced cells as the released guide's own fill.sh prints them over the translation a742e4039caa7129… (all of the seat's roots in one cut). By AI agents, Wed Nov 11 2026. No macro, syntax, notation, axiom, sorry.
-/
import Derived.Test.Qxb6608748aFmtChecked
import GoSem.PinnedTables
import GoSem.Claim
import GoSem.ClaimJoined
import GoSem.ClaimMapViews
import Derived.JoinedTies
import Derived.KernelRfl
namespace Go.Proofs.Qxb6608748aFmt
/- THE CELL 'sum', in the pinned program and in every row, IS THE sha256 OF THE DUMP (.gsa) THAT Qxb6608748aFmtProg.lean LOADS. Nothing in Lean hashes anything: it is a label: what it is worth is what the hold of that sum in a sandbox is worth. -/
noncomputable def Tryf.pinned : Pinned := { name := "qxb6608748afmt", sum := "a742e4039caa7129f0feedb67e2c309e9bcc5dd2c5bc752a826cb6c563f7295c", checked := Tryf.checked }
namespace Rows
def none {H : Type} : Left H := { results := [], args := [] }

/- WHAT THE LISTED PACKAGE-LEVEL VARIABLES READ AS WHEN THE CALL BEGINS. Each datum BY PROGRAM (the guide's laid-datum.mjs) off the statement by which the dump's own 'gosem.cut.vars' lays the variable. In a bare row this is a premise. The card (Qxb6608748aFmtCards.lean) ties it to the program's text. -/
def laid_unicode_utf8_acceptRanges {H : Type} : DataW H := .agg [.agg [.lit (.int .u8 128), .lit (.int .u8 191)], .agg [.lit (.int .u8 160), .lit (.int .u8 191)], .agg [.lit (.int .u8 128), .lit (.int .u8 159)], .agg [.lit (.int .u8 144), .lit (.int .u8 191)], .agg [.lit (.int .u8 128), .lit (.int .u8 143)], .agg [.lit (.int .u8 0), .lit (.int .u8 0)], .agg [.lit (.int .u8 0), .lit (.int .u8 0)], .agg [.lit (.int .u8 0), .lit (.int .u8 0)], .agg [.lit (.int .u8 0), .lit (.int .u8 0)], .agg [.lit (.int .u8 0), .lit (.int .u8 0)], .agg [.lit (.int .u8 0), .lit (.int .u8 0)], .agg [.lit (.int .u8 0), .lit (.int .u8 0)], .agg [.lit (.int .u8 0), .lit (.int .u8 0)], .agg [.lit (.int .u8 0), .lit (.int .u8 0)], .agg [.lit (.int .u8 0), .lit (.int .u8 0)], .agg [.lit (.int .u8 0), .lit (.int .u8 0)]]
def laid_example_com_palimpsest_palimpsest_internal_engine_ErrNoSuchColumn {H : Type} : DataW H := .iface "*errors.errorString" (.ptr (.agg [.lit (.string [110, 111, 32, 115, 117, 99, 104, 32, 99, 111, 108, 117, 109, 110])]))
/-- One of Go's own tables, pinned by name: the form's constant. -/
def laid_unicode_utf8_first : DataW Unit := Go.Pinned.utf8First

/-- 'zzlaws_internal_engine_b1.FnTableKeyColumnNameLeadsBackToKey': WHATEVER THE INPUT: true; the input reads as it did. -/
def fnTableKeyColumnNameLeadsBackToKeySpec : ChangeSpec := { name := "fnTableKeyColumnNameLeadsBackToKey", vars := ["example.com/palimpsest/palimpsest/internal/engine.ErrNoSuchColumn"], fn := fun _ => fun
  | [d1, d2, g1] => { results := [.lit (.bool true)], args := [d1, d2], vars := [g1] }
  | _ => none }
def fnTableKeyColumnNameLeadsBackToKeyRow : OpenClaim := { program := "qxb6608748afmt", sum := "a742e4039caa7129f0feedb67e2c309e9bcc5dd2c5bc752a826cb6c563f7295c", func := "example.com/palimpsest/palimpsest/zzlaws_internal_engine_b1.FnTableKeyColumnNameLeadsBackToKey", spec := "fnTableKeyColumnNameLeadsBackToKey", stops := ["fmt.errorf"], inPlace := ["internal/abi.NoEscape", "internal/bytealg.MakeNoZero", "fmt.errorf"], unfollowed := true, recurses := true, named := ["example.com/palimpsest/palimpsest/internal/engine.ErrNoSuchColumn", "unicode/utf8.first", "unicode/utf8.acceptRanges"], ifaces := true, plainKeys := false, apart := false, laid := [("unicode/utf8.acceptRanges", laid_unicode_utf8_acceptRanges), ("example.com/palimpsest/palimpsest/internal/engine.ErrNoSuchColumn", laid_example_com_palimpsest_palimpsest_internal_engine_ErrNoSuchColumn), ("unicode/utf8.first", laid_unicode_utf8_first)] }
/-- NO THEOREM (fmt's text is open here; it may be false): for the released tool's asking of the row's closed facts alone. THE STATEMENT IS 'FnTableKeyColumnNameLeadsBackToKeyToldSaid' (Qxb6608748aFmtCards.lean). -/
def FnTableKeyColumnNameLeadsBackToKeyFormAsk : Prop := fnTableKeyColumnNameLeadsBackToKeyRow.holds Tryf.pinned (OpenSpec.ofChange fnTableKeyColumnNameLeadsBackToKeySpec)

/-- ITS FALSE NEIGHBOUR: 'it returns false'. Refute it at one input. -/
def fnTableKeyColumnNameLeadsBackToKeyWrong : ChangeSpec := { name := "fnTableKeyColumnNameLeadsBackToKey", vars := ["example.com/palimpsest/palimpsest/internal/engine.ErrNoSuchColumn"], fn := fun _ => fun
  | [d1, d2, g1] => { results := [.lit (.bool false)], args := [d1, d2], vars := [g1] }
  | _ => none }
def FnTableKeyColumnNameLeadsBackToKeyWrongFormAsk : Prop := fnTableKeyColumnNameLeadsBackToKeyRow.holds Tryf.pinned (OpenSpec.ofChange fnTableKeyColumnNameLeadsBackToKeyWrong)

end Rows
end Go.Proofs.Qxb6608748aFmt
