/-
  THE ROW LIFTED, AND THE TOLD AND TIED CARD.
-/
import Derived.Test.Qxb6613464aFmtTie
import Derived.Test.Qxb6613464aFmtCards
import Derived.Test.Qxb6613464aFmtWalkK
import Derived.ProofKit
import Derived.OpenShut
import Derived.OpenVars
import Derived.ShutString
import Derived.SliceStrings
import Derived.ChangeOld
import Derived.ChangeMaps5
import Derived.Lay
import Derived.Stop.JoinedAt
import Derived.Stop.JoinedTold
import Derived.SevenTiedAt
namespace Go.Proofs.Qxb6613464aFmt
open Go.ChangeShapes Go.WideShapes Go.ChangeAt Go.RowKit
open Go.Extern.Stop Go.Stop Go.Extern
open Go.ChangeMaps (open_string shut_string)
set_option linter.unusedVariables false

theorem own : ownKnob Tryf.prog.godebug = none := by kernel_rfl
theorem laidOut : laidOutB Tryf.pinned.checked.prog = true := by kernel_rfl
theorem theStops : Tryf.pinned.checked.prog.stops = Rows.fnLenTargetParentPrefixStepsUpRow.stops := by kernel_rfl
theorem theKnobs : Tryf.pinned.checked.prog.stopKnobs = [] := by kernel_rfl
theorem theQuiet (os : Os) : Stop.quiet Tryf.pinned.checked.prog os := by
  intro k hk
  rw [theKnobs] at hk
  cases hk
set_option maxRecDepth 100000 in
theorem lifted (os : Os) (started : os.Started) (H : Type) (enc : TypeId × Value → H) :
    ReturnsInTold none {} Tryf.checked os 3 .any Input.okWide ((OpenSpec.ofChange Rows.fnLenTargetParentPrefixStepsUpSpec).preRow enc Tryf.prog Tryf.f3 [] false Rows.fnLenTargetParentPrefixStepsUpRow.laid)
      (fun F => ((OpenSpec.ofChange Rows.fnLenTargetParentPrefixStepsUpSpec).at F).post enc Tryf.prog Tryf.f3 false true false false) (aloneAtReturn Tryf.prog) nothingAlways := by
  refine returnsInTold_of_row (C := Tryf.checked) (s := OpenSpec.ofChange Rows.fnLenTargetParentPrefixStepsUpSpec) (by kernel_rfl) own started (by kernel_rfl) Tryf.func3
    (fun F => ?_) ?_
  · refine ⟨World.laidAll Tryf.prog os Rows.fnLenTargetParentPrefixStepsUpRow.laid, F.over fun _ _ => 0, ⟨#[], #[.string ⟨#[]⟩, .slice none 0 0], []⟩, World.laidAll_os _ _ _, ?_, rfl, ?_, ?_, ?_, F.over_answers _⟩
    · exact World.shaped_of_ZipB (by kernel_rfl) (by kernel_rfl)
    · exact (Input.okWide_of_okWideB (by kernel_rfl)).2
    · refine OpenSpec.preRow_of_B rfl 8 (by kernel_rfl) (by kernel_rfl) ?_
      rw [MakeChecks.laidMetH_plain _ _ _ (by kernel_rfl)]
      exact laidMet_laidAll _ (by kernel_rfl) (by kernel_rfl)
    · simp only [Assume.holds]
      exact ⟨by simp, by simp, fun _ => F.over_modest Modest.zero, by simp, by simp⟩
  intro F W base args ds gs before _ hF hval0 hW _ _ hsz hL _
  have hval : ∀ (j : Nat) t v, Tryf.f3.params[j]? = some t → args[j]? = some v → Value.okWide Tryf.prog W .any base t v := hval0
  have hW' := hW
  obtain ⟨p, q, hA0, hV, rfl, hfz, hnd⟩ := hW
  have hA : DataW.TrodAll enc Tryf.prog W 0 (fun _ => true) true Tryf.f3.params.toList args.toList ds p := hA0
  rw [Tryf.params3] at hA hval
  obtain ⟨v0, vs0, d0, ds0, p0, q0, hargs, rfl, rfl, h0, r0⟩ := trodAll_cons hA
  obtain ⟨v1, vs1, d1, ds1, p1, q1, rfl, rfl, rfl, h1, r1⟩ := trodAll_cons r0
  obtain ⟨rfl, rfl, rfl⟩ := trodAll_nil r1
  obtain rfl : args = #[v0, v1] := by cases args; simp_all
  have k1 := h1
  have lt1 : ∀ x ∈ p1, x.block < W.heap.size := by obtain ⟨m, hm⟩ := k1; exact DataW.trod_lt m _ _ _ hm
  obtain ⟨s0, rfl, rfl, rfl, hs0⟩ := open_string Tryf.underlying9 (hval 0 9 v0 rfl rfl) h0
  obtain ⟨a0, len0, cap0, rfl⟩ := okWide_slice Tryf.underlying22 (hval 1 22 v1 rfl rfl)
  obtain ⟨z0, w0⟩ : ∃ ss, StrRow W a0 len0 cap0 ss := by
    obtain ⟨fuel, hf⟩ := h1
    rcases open_strings Tryf.underlying22 Tryf.underlying9 (by kernel_rfl) hf with ⟨hcs, _⟩ | ⟨x, l, c, ss, hcs, _, hl, hm, hz, _, hcell, hws⟩
    · simp [Value.cells] at hcs
      obtain ⟨rfl, rfl, rfl⟩ := hcs
      exact ⟨[], .inl ⟨rfl, rfl, rfl⟩⟩
    · simp [Value.cells] at hcs
      obtain ⟨rfl, rfl, rfl⟩ := hcs
      exact ⟨ss, .inr ⟨_, rfl, hl, hm, by simpa using hz, hcell, hws⟩⟩
  clear hA0 hval0
  rcases gs with _ | ⟨g1, gr⟩
  · refine (law_any F.told s0 a0 len0 cap0 z0 W hF hs0 w0).mono fun e W' ⟨he, bel⟩ => ?_
    subst he
    exact ⟨_, rfl, _, _, _, [], _, q, hW', trodAll_mk1 (shut_bool Tryf.underlying4 _), (trodAll_cons_mk (shut_string Tryf.underlying9 hs0) (trodAll_cons_mk (Below.trod laidOut (by kernel_rfl) (of_decide_eq_true (by kernel_rfl)) k1 bel lt1) trodAll_mk0)), bel.trodVars laidOut (by kernel_rfl) hV, bel.frame _, fun h => by cases h⟩
  · exact (show False from hV).elim

theorem proved : Rows.FnLenTargetParentPrefixStepsUpToldSaid :=
  Claim7.holds_of_told_tied_any_at .later 3 Tryf.f3 _ [] [] _ _ _ _ _ (by kernel_rfl) rfl rfl rfl laidOut (by kernel_rfl) rfl ⟨rfl, rfl, rfl, rfl, rfl, rfl, rfl⟩ rfl rfl (by kernel_rfl) (by kernel_rfl) Tryf.func3 (by kernel_rfl)
    (of_decide_eq_true (by kernel_rfl)) (of_decide_eq_true (by kernel_rfl)) theStops.symm rfl theKnobs.symm (by kernel_rfl)
    (by kernel_rfl) (by kernel_rfl) (by kernel_rfl) (by kernel_rfl) (by kernel_rfl) (by kernel_rfl) (by kernel_rfl) (by kernel_rfl) (by kernel_rfl) rfl (by kernel_rfl) rfl rfl
    rfl rfl
    rfl (by kernel_rfl) (by kernel_rfl) (by kernel_rfl) (by decide) (by kernel_rfl) fnLenTargetParentPrefixStepsUp_row_tie
    (OpenClaim.moreEntering_of (by kernel_rfl) (by kernel_rfl) (by kernel_rfl) (by kernel_rfl) (by kernel_rfl) (by kernel_rfl) (by kernel_rfl) (by kernel_rfl) (by kernel_rfl) (by kernel_rfl))
    ⟨_, WideRow.started_initial, theQuiet _⟩
    (fun os started _ H enc _ => lifted os started H enc)
end Go.Proofs.Qxb6613464aFmt
