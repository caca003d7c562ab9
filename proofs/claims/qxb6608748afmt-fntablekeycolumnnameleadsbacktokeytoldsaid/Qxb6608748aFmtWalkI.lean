/-
  WALK: the law at a slice of no string; both under one name.
-/
import Derived.Test.Qxb6608748aFmtWalkH
namespace Go.Proofs.Qxb6608748aFmt
open Go.RowKit

set_option maxHeartbeats 400000 in
set_option maxRecDepth 100000 in
theorem law_none (a : Option Addr) (cap : Nat) (key : Int) (w : World) :
    Calls Tryf.prog 3 #[.slice a 0 cap, .int .i64 key] w fun e w' => e = .returned (.bool true) ∧ Below w.heap.size w w' := by
  have HB : Hid (Calls Tryf.prog 4 #[.slice a 0 cap, .int .i64 key] w fun e w' => SaysBool e ∧ w' = w) := bytes_none a cap key w
  go_enter Tryf.func3, Tryf.ntmps3
  go_wp2_with fail
  refine HB.out.mono ?_
  rintro e w' ⟨⟨q, rfl⟩, hw⟩
  have hw' := hw.symm
  subst hw'
  clear hw
  cases q
  · go_wp2
    go_ret
    exact ⟨rfl, Below.refl _ _⟩
  · go_wp2
    go_loop [5, 6] (fun z i => z = .int .i64 0 ∧ i = .int .i64 0) (fun _ _ => 0)
    case atStart => exact ⟨rfl, rfl⟩
    case round =>
      obtain ⟨rfl, rfl⟩ := hrel
      rcases Int.lt_or_le key 0 with hk | hk
      all_goals
        go_wp2
        go_ret
        exact ⟨rfl, Below.refl _ _⟩

/-- A slice of strings that came in: nil, or a row of strings. -/
def StrRow (w : World) (a : Option Addr) (len cap : Nat) (ss : List ByteArray) : Prop :=
  (a = none ∧ len = 0 ∧ cap = 0) ∨
  ∃ x, a = some x ∧ len ≤ cap ∧ cap ≤ maxLen ∧ ss.length = cap ∧ (∀ i, i < ss.length → w.cell? (x.add i) = some (.string (ss.getD i ByteArray.empty))) ∧ ∀ s ∈ ss, s.size ≤ maxLen

theorem law_any (a : Option Addr) (len cap : Nat) (ss : List ByteArray) (key : Int) (w : World) (h : StrRow w a len cap ss) (hT : Lib.Utf8Tabs 1 2 w) :
    Calls Tryf.prog 3 #[.slice a len cap, .int .i64 key] w fun e w' => e = .returned (.bool true) ∧ Below w.heap.size w w' := by
  by_cases h0 : len = 0
  · subst h0
    exact law_none a cap key w
  · rcases h with ⟨_, h1, _⟩ | ⟨x, rfl, hl, hm, hz, hcell, hws⟩
    · exact absurd h1 h0
    · obtain ⟨b, off, spot⟩ := x
      have hc0 := hcell 0 (by omega)
      have hspot : spot = none := by simpa [Addr.add] using World.cell?_spot hc0
      subst hspot
      have ea : ∀ j, (⟨b, off, none⟩ : Addr).add j = ⟨b, off + j, none⟩ := fun j => by
        unfold Addr.add
        split
        · next h0 => subst h0; rfl
        · rfl
      refine law_some b off len cap ss key w (by omega) (by omega) (fun j hj => ?_) (fun j => ?_) ?_ hT
      · have := hcell j (by omega)
        rwa [ea] at this
      · unfold nm
        by_cases hj : j < ss.length
        · rw [List.getD, List.getElem?_eq_getElem hj]
          exact hws _ (List.getElem_mem hj)
        · rw [List.getD, List.getElem?_eq_none (by omega)]
          exact Nat.zero_le _
      · have := World.block_lt_of_cell? w _ hc0
        rw [ea] at this
        exact this
end Go.Proofs.Qxb6608748aFmt
