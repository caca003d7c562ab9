/-
  WALKS: zzFlipASCII, zzBytes.
-/
import Derived.Test.Qxb6608748aFmtWalkA
namespace Go.Proofs.Qxb6608748aFmt
open Go.RowKit

theorem flip_eq1 (b : UInt8) (v : Int) (h1 : 65 ≤ (b.toNat : Int)) (h2 : (b.toNat : Int) ≤ 90) (hv : v = (b.toNat : Int) + 32) : v = ((Pl.flipB b).toNat : Int) := by
  rw [Pl.flip_num, if_pos ⟨h1, h2⟩, hv]
theorem flip_eq2 (b : UInt8) (v : Int) (h1 : 97 ≤ (b.toNat : Int)) (h2 : (b.toNat : Int) ≤ 122) (hv : v = (b.toNat : Int) - 32) : v = ((Pl.flipB b).toNat : Int) := by
  rw [Pl.flip_num, if_neg (by omega), if_pos ⟨h1, h2⟩, hv]
theorem flip_id (b : UInt8) (h : ¬ (65 ≤ (b.toNat : Int) ∧ (b.toNat : Int) ≤ 90)) (h' : ¬ (97 ≤ (b.toNat : Int) ∧ (b.toNat : Int) ≤ 122)) : Pl.flipB b = b := by
  unfold Pl.flipB; rw [if_neg (by omega), if_neg (by omega)]

set_option maxHeartbeats 800000 in
set_option maxRecDepth 100000 in
theorem flip_any (s : ByteArray) (w : World) (hs : s.size ≤ maxLen) :
    Calls Tryf.prog 10 #[.string s] w fun e w' => e = .returned (.string ⟨(s.data.toList.map Pl.flipB).toArray⟩) ∧ Below w.heap.size w w' := by
  unfold maxLen at hs
  have hconv := run_bytes_of_string (P := Tryf.prog) w 9 39 5 s Tryf.underlying9 Tryf.underlying39 Tryf.underlying5
  go_enter Tryf.func10, Tryf.ntmps10
  go_wp2
  go_loopw [4] (fun i wr => ∃ k : Nat, k ≤ s.size ∧ i = .int .i64 k ∧ Row Pl.flipB s w.heap.size k wr ∧ Below w.heap.size w wr) (fun i _ => s.size - (intOf i).toNat)
  case atStart => exact ⟨0, Nat.zero_le _, rfl, row_start _ s w _, ((Below.refl _ w).alloc (Nat.le_refl _) _).drew⟩
  case round =>
    obtain ⟨k, hk, rfl, hrow, hb⟩ := hrel
    by_cases hlt : k < s.size
    · have hck : wr.cell? ⟨w.heap.size, k, none⟩ = some (.int .u8 (s[k].toNat : Int)) := by
        have := hrow.1 k hlt
        rwa [if_neg (Nat.lt_irrefl _)] at this
      have hfz := hrow.2 k hlt
      have hbd : (s[k].toNat : Int) < 256 := by have := s[k].toNat_lt; omega
      by_cases h65 : 65 ≤ (s[k].toNat : Int) ∧ (s[k].toNat : Int) ≤ 90
      · obtain ⟨h65, h90⟩ := h65
        go_wp2
        go_roundw
        case rel => exact ⟨k + 1, by omega, by go_num, row_set hrow hlt _ (flip_eq1 _ _ h65 h90 rfl), hb.setCell (Nat.le_refl _) _⟩
        case measure => simp [intOf]; omega
      · by_cases h97 : 97 ≤ (s[k].toNat : Int) ∧ (s[k].toNat : Int) ≤ 122
        · obtain ⟨h97, h122⟩ := h97
          have h65' : 65 ≤ (s[k].toNat : Int) := by omega
          have h90' : ¬ (s[k].toNat : Int) ≤ 90 := by omega
          clear h65
          go_wp2
          go_roundw
          case rel => exact ⟨k + 1, by omega, by go_num, row_set hrow hlt _ (flip_eq2 _ _ h97 h122 rfl), hb.setCell (Nat.le_refl _) _⟩
          case measure => simp [intOf]; omega
        · rcases (by omega : (s[k].toNat : Int) < 65 ∨ (65 ≤ (s[k].toNat : Int) ∧ 90 < (s[k].toNat : Int) ∧ (s[k].toNat : Int) < 97) ∨ 122 < (s[k].toNat : Int)) with h | ⟨h, h', h''⟩ | h
          all_goals
            clear h65 h97
            go_wp2
            go_roundw
            case rel => exact ⟨k + 1, by omega, by go_num, row_keep hrow hlt (flip_id _ (by omega) (by omega)), hb⟩
            case measure => simp [intOf]; omega
    · have he : k = s.size := by omega
      subst he
      have hbk := fun cap => row_back (cap := cap) hrow
      go_wp2
      go_ret
      exact ⟨rfl, hb⟩

/-- What the law asks of a slice of strings in a world: its cells. -/
def StrsAt (w : World) (a : Option Addr) (len : Nat) (ss : List ByteArray) : Prop :=
  ∀ j, j < len → ∃ b off, a = some ⟨b, off, none⟩ ∧ w.cell? ⟨b, off + j, none⟩ = some (.string (ss.getD j ByteArray.empty))
end Go.Proofs.Qxb6608748aFmt
