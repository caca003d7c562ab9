/-
  WALKS: isSpace, endsExcerpt, endsExcerptByte, zzBytes.
-/
import Derived.Test.Qxb6608766aDoorChecked
import Derived.Test.Qxb6608766aDoorPlain
import Derived.WalkKit
import Derived.WalkSpells
import Derived.WalkLawsBesides
import Derived.Laws.IdiomStrings
import Derived.Deep.QuietTactic
import Derived.BigQuiet
namespace Go.Proofs.Qxb6608766aDoor
open Go.RowKit

def spN (c : Int) : Bool := decide ((9 ≤ c ∧ c ≤ 13) ∨ c = 32)
def endN (c : Int) : Bool := decide ((9 ≤ c ∧ c ≤ 13) ∨ c = 32 ∨ c = 35)
theorem split11 (c : Int) : c < 9 ∨ (9 ≤ c ∧ c ≤ 9) ∨ (10 ≤ c ∧ c ≤ 10) ∨ (11 ≤ c ∧ c ≤ 11) ∨ (12 ≤ c ∧ c ≤ 12) ∨ (13 ≤ c ∧ c ≤ 13) ∨ (14 ≤ c ∧ c ≤ 31) ∨ (32 ≤ c ∧ c ≤ 32) ∨ (33 ≤ c ∧ c ≤ 34) ∨ (35 ≤ c ∧ c ≤ 35) ∨ 36 ≤ c := by omega
theorem endN_endB (b : UInt8) : endN (b.toNat : Int) = Pl.endB b := by
  unfold endN Pl.endB
  rw [Bool.eq_iff_iff]
  simp
  omega

set_option maxHeartbeats 800000 in
set_option maxRecDepth 100000 in
theorem space_any (c : Int) (w : World) : Calls Tryd.prog 40 #[.int .u8 c] w fun e w' => e = .returned (.bool (spN c)) ∧ w' = w := by
  rcases split11 c with h | ⟨h, h'⟩ | ⟨h, h'⟩ | ⟨h, h'⟩ | ⟨h, h'⟩ | ⟨h, h'⟩ | ⟨h, h'⟩ | ⟨h, h'⟩ | ⟨h, h'⟩ | ⟨h, h'⟩ | h
  all_goals
    first
    | (have e : spN c = true := decide_eq_true (by omega)
       rw [e])
    | (have e : spN c = false := decide_eq_false (by omega)
       rw [e])
    clear e
    go_enter Tryd.func40, Tryd.ntmps40
    go_wp2
    go_ret
    first | exact ⟨rfl, rfl⟩ | (refine ⟨?_, rfl⟩; simp; omega)

set_option maxHeartbeats 800000 in
set_option maxRecDepth 100000 in
theorem endByte_any (c : Int) (w : World) : Calls Tryd.prog 24 #[.int .u8 c] w fun e w' => e = .returned (.bool (endN c)) ∧ w' = w := by
  rcases split11 c with h | ⟨h, h'⟩ | ⟨h, h'⟩ | ⟨h, h'⟩ | ⟨h, h'⟩ | ⟨h, h'⟩ | ⟨h, h'⟩ | ⟨h, h'⟩ | ⟨h, h'⟩ | ⟨h, h'⟩ | h
  all_goals
    first
    | (have e : endN c = true := decide_eq_true (by omega)
       rw [e])
    | (have e : endN c = false := decide_eq_false (by omega)
       rw [e])
    clear e
    go_enter Tryd.func24, Tryd.ntmps24
    go_wp2
    go_ret
    first | exact ⟨rfl, rfl⟩ | (refine ⟨?_, rfl⟩; simp; omega)

set_option maxHeartbeats 800000 in
set_option maxRecDepth 100000 in
theorem ends_any (c : Int) (w : World) (h0 : 0 ≤ c) : Calls Tryd.prog 34 #[.int .i32 c] w fun e w' => e = .returned (.bool (endN c)) ∧ w' = w := by
  rcases Int.lt_or_le c 128 with hc | hc
  · have H40 : Hid (Calls Tryd.prog 40 #[.int .u8 c] w fun e w' => e = .returned (.bool (spN c)) ∧ w' = w) := space_any c w
    by_cases hs : spN c = true
    · have hs' : endN c = true := by
        unfold spN endN at *
        simp at *
        omega
      rw [hs']
      rw [hs] at H40
      clear hs hs'
      go_enter Tryd.func34, Tryd.ntmps34
      go_wp2_with fail
      refine H40.out.mono ?_
      rintro e w' ⟨rfl, hw⟩
      have hw' := hw.symm
      subst hw'
      go_wp2
      go_ret
      first | exact ⟨rfl, rfl⟩ | (refine ⟨?_, rfl⟩; simp; omega)
    · have hs1 : spN c = false := by simpa using hs
      rw [hs1] at H40
      rcases (by omega : c < 35 ∨ 35 < c ∨ (35 ≤ c ∧ c ≤ 35)) with h | h | ⟨h, h'⟩
      all_goals
        first
        | (have e : endN c = true := decide_eq_true (by omega)
           rw [e])
        | (have e : endN c = false := by
             unfold spN endN at *
             simp at *
             omega
           rw [e])
        clear e hs hs1
        go_enter Tryd.func34, Tryd.ntmps34
        go_wp2_with fail
        refine H40.out.mono ?_
        rintro e w' ⟨rfl, hw⟩
        have hw' := hw.symm
        subst hw'
        go_wp2
        go_ret
        first | exact ⟨rfl, rfl⟩ | (refine ⟨?_, rfl⟩; simp; omega)
  · have e : endN c = false := decide_eq_false (by omega)
    rw [e]
    clear e
    go_enter Tryd.func34, Tryd.ntmps34
    go_wp2
    go_ret
    first | exact ⟨rfl, rfl⟩ | (refine ⟨?_, rfl⟩; simp; omega)
end Go.Proofs.Qxb6608766aDoor
