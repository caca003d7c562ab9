/-
  WALK: the law at a slice of no name; both under one name.
-/
import Derived.Test.Qxb6613464aFmtWalkJ
namespace Go.Proofs.Qxb6613464aFmt
open Go.RowKit Go.Extern.Stop Go.Stop Go.Extern

set_option maxHeartbeats 800000 in
set_option maxRecDepth 100000 in
theorem law_none (s : ByteArray) (a : Option Addr) (c : Nat) (w : World) (hs : s.size ≤ maxLen) :
    Calls Tryf.prog 3 #[.string s, .slice a 0 c] w fun e w' => e = .returned (.bool true) ∧ Below w.heap.size w w' := by
  have HN : Names w a [] := fun h => by simp at h
  have HZ : Hid (Calls Tryf.prog 4 #[.string s, .slice a 0 c] w fun e w' => SaysIf (s.size ≤ 1048576 ∧ ([] : List ByteArray).length ≤ 1048576) e ∧ w' = w) := zzBytes_any s a c [] w hs (Nat.zero_le _) HN
  have HO : Hid (∀ mx : Int, 0 ≤ mx → mx ≤ 1048576 → Calls Tryf.prog 5 #[.slice a 0 c, .int .i64 mx] w fun e w' => SaysIf True e ∧ w' = w) := fun mx h0 h1 => over_any a c [] mx w h0 h1 (Nat.zero_le _) HN
  clear HN
  unfold maxLen at hs
  go_enter Tryf.func3, Tryf.ntmps3
  go_wp2_with fail
  refine HZ.out.mono ?_
  rintro e w' ⟨⟨q, rfl, hq⟩, hw⟩
  have hw' := hw.symm
  subst hw'
  clear hw HZ
  cases q
  · go_wp2
    go_ret
    exact ⟨rfl, Below.refl _ _⟩
  · obtain ⟨hs1, -⟩ := hq rfl
    clear hq
    have hsi : (s.size : Int) ≤ 1048576 := by omega
    go_wp2_with fail
    refine (HO.out _ (by omega) (by omega)).mono ?_
    rintro e w' ⟨⟨q, rfl, -⟩, hw⟩
    have hw' := hw.symm
    subst hw'
    clear hw HO
    cases q
    all_goals
      go_wp2
      go_ret
      exact ⟨rfl, Below.refl _ _⟩

/-- A slice of strings that came in: nil, or a row of strings. -/
def StrRow (w : World) (a : Option Addr) (len cap : Nat) (ss : List ByteArray) : Prop :=
  (a = none ∧ len = 0 ∧ cap = 0) ∨
  ∃ x, a = some x ∧ len ≤ cap ∧ cap ≤ maxLen ∧ ss.length = cap ∧ (∀ i, i < ss.length → w.cell? (x.add i) = some (.string (ss.getD i ByteArray.empty))) ∧ ∀ s ∈ ss, s.size ≤ maxLen

theorem law_any (F : Interp) (s : ByteArray) (a : Option Addr) (len cap : Nat) (ss : List ByteArray) (w : World) (hF : F.answers w.tape) (hs : s.size ≤ maxLen) (h : StrRow w a len cap ss) :
    Calls Tryf.prog 3 #[.string s, .slice a len cap] w fun e w' => e = .returned (.bool true) ∧ Below w.heap.size w w' := by
  by_cases h0 : len = 0
  · subst h0
    exact law_none s a cap w hs
  · rcases h with ⟨_, h1, _⟩ | ⟨x, rfl, hl, hm, hz, hcell, hws⟩
    · exact absurd h1 h0
    · obtain ⟨b, off, spot⟩ := x
      have hc0 := hcell 0 (by omega)
      have hspot : spot = none := by simpa [Addr.add] using World.cell?_spot hc0
      subst hspot
      have ea : ∀ j, (⟨b, off, none⟩ : Addr).add j = ⟨b, off + j, none⟩ := fun j => by
        unfold Addr.add
        split
        · next h0 => subst h0; rfl
        · rfl
      have hlt : (ss.take len).length = len := by rw [List.length_take]; omega
      have hb : b < w.heap.size := by
        have := World.block_lt_of_cell? w _ hc0
        rw [ea] at this
        exact this
      have := law_some F s b off cap (ss.take len) w hF hs (by rw [hlt]; omega) (by rw [hlt]; omega) (by rw [hlt]; omega) hb (fun j hj => ?_)
      · rwa [hlt] at this
      · rw [hlt] at hj
        have hc := hcell j (by omega)
        rw [ea] at hc
        rw [hc, List.getElem_take, List.getD, List.getElem?_eq_getElem (by omega)]
        rfl
end Go.Proofs.Qxb6613464aFmt
