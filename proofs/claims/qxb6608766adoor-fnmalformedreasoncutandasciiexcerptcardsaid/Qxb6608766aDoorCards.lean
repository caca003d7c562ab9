/-
  DERIVED. GIVEN WITH THE SEED: THE CARDS: each row of Qxb6608766aDoorRows.lean that lists a variable, with what it lists TIED to the program's text (the seventh form; the later family's looks); each row that meets fmt, with fmt's text TOLD by the authors' own Lean function (tested against real Go, not proved from fmt's source: count such statements apart). THE CARD IS WHAT COUNTS. Prove the row's statement (the work); the ties are given (Qxb6608766aDoorTie.lean); close each card by the builder's one call (the guide's Derived/Test/ToyasCard.lean, 'card_holds'). Laid BY PROGRAM, IN A SANDBOX (cutbox-door.mjs). By AI agents, Wed Nov 11 2026. No macro, syntax, notation, axiom, sorry.
-/
import Derived.Test.Qxb6608766aDoorRows
import GoSem.ClaimSeven
namespace Go.Proofs.Qxb6608766aDoor
namespace Rows

/-- THE TIED CARD OF 'zzlaws_pkg_schedule_b1.FnSkipLineStopsAtNextLineFeed'. -/
def fnSkipLineStopsAtNextLineFeedCard : Claim7 := { stood := { row := fnSkipLineStopsAtNextLineFeedRow, standIns := [], harness := (true, "c601914dbec4b75b2a1564ba1266bd4ab8331729b0ddfc1b0ef5050d377d24c2"), looks := false }, kinds := [], alts := [], laidByText := true, laidKinds := [.sentinel, .sentinel], laidTests := true, laidLooks := .later }
def FnSkipLineStopsAtNextLineFeedCardSaid : Prop := Claim7.holds Tryd.pinned (.plain (OpenSpec.ofChange fnSkipLineStopsAtNextLineFeedSpec)) fnSkipLineStopsAtNextLineFeedCard

/-- THE TIED CARD OF 'zzlaws_pkg_schedule_b1.FnSkipLineStreamingAgreesWithWholeText'. -/
def fnSkipLineStreamingAgreesWithWholeTextCard : Claim7 := { stood := { row := fnSkipLineStreamingAgreesWithWholeTextRow, standIns := [], harness := (true, "c601914dbec4b75b2a1564ba1266bd4ab8331729b0ddfc1b0ef5050d377d24c2"), looks := false }, kinds := [], alts := [], laidByText := true, laidKinds := [.sentinel, .sentinel], laidTests := true, laidLooks := .later }
def FnSkipLineStreamingAgreesWithWholeTextCardSaid : Prop := Claim7.holds Tryd.pinned (.plain (OpenSpec.ofChange fnSkipLineStreamingAgreesWithWholeTextSpec)) fnSkipLineStreamingAgreesWithWholeTextCard

/-- THE TIED CARD OF 'zzlaws_pkg_schedule_b1.FnMalformedReasonCutAndAsciiExcerpt'. -/
def fnMalformedReasonCutAndAsciiExcerptCard : Claim7 := { stood := { row := fnMalformedReasonCutAndAsciiExcerptRow, standIns := [], harness := (true, "c601914dbec4b75b2a1564ba1266bd4ab8331729b0ddfc1b0ef5050d377d24c2"), looks := false }, kinds := [], alts := [], laidByText := true, laidKinds := [.data, .sentinel, .sentinel, .pinned, .pinned, .pinned, .pinned, .pinned, .pinned], laidTests := true, laidLooks := .later }
def FnMalformedReasonCutAndAsciiExcerptCardSaid : Prop := Claim7.holds Tryd.pinned (.plain (OpenSpec.ofChange fnMalformedReasonCutAndAsciiExcerptSpec)) fnMalformedReasonCutAndAsciiExcerptCard

/-- THE TIED CARD OF 'zzlaws_pkg_schedule_b1.FnMalformedReadsOnlyTheNextBytes'. -/
def fnMalformedReadsOnlyTheNextBytesCard : Claim7 := { stood := { row := fnMalformedReadsOnlyTheNextBytesRow, standIns := [], harness := (true, "c601914dbec4b75b2a1564ba1266bd4ab8331729b0ddfc1b0ef5050d377d24c2"), looks := false }, kinds := [], alts := [], laidByText := true, laidKinds := [.data, .sentinel, .sentinel, .pinned, .pinned, .pinned, .pinned, .pinned, .pinned], laidTests := true, laidLooks := .later }
def FnMalformedReadsOnlyTheNextBytesCardSaid : Prop := Claim7.holds Tryd.pinned (.plain (OpenSpec.ofChange fnMalformedReadsOnlyTheNextBytesSpec)) fnMalformedReadsOnlyTheNextBytesCard
end Rows
end Go.Proofs.Qxb6608766aDoor
