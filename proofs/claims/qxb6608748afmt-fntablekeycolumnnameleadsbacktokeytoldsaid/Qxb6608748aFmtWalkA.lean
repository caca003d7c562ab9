/-
  WALKS: the law's own small functions: zzFoldASCII.
-/
import Derived.Test.Qxb6608748aFmtChecked
import Derived.Test.Qxb6608748aFmtBytes
import Derived.WalkKit
import Derived.WalkSpells
import Derived.WalkLawsBesides
import Derived.Laws.IdiomStrings
import Derived.Deep.QuietTactic
import Derived.BigQuiet
namespace Go.Proofs.Qxb6608748aFmt
open Go.RowKit

/-- The bytes of s, the first k of them folded by f, lie at the head of block B, none frozen. -/
def Row (f : UInt8 → UInt8) (s : ByteArray) (B k : Nat) (wr : World) : Prop :=
  (∀ j (hj : j < s.size), wr.cell? ⟨B, j, none⟩ = some (.int .u8 ((if j < k then f s[j] else s[j]).toNat : Int))) ∧ (∀ j, j < s.size → wr.frozen? ⟨B, j, none⟩ = false)

theorem row_start (f : UInt8 → UInt8) (s : ByteArray) (w : World) (cap : Nat) :
    Row f s w.heap.size 0 (w.alloc (.cells (bytesRow s cap) 5 ((bytesRow s cap).size, (bytesRow s cap).size + 1))).drew := by
  refine ⟨fun j hj => ?_, fun j hj => ?_⟩
  · show (w.alloc (.cells (bytesRow s cap) 5 ((bytesRow s cap).size, (bytesRow s cap).size + 1))).cell? ⟨w.heap.size, j, none⟩ = _
    rw [World.cell?_alloc_mark, bytesRow_at s cap j hj, if_neg (Nat.not_lt_zero _)]
    rfl
  · show (w.alloc (.cells (bytesRow s cap) 5 ((bytesRow s cap).size, (bytesRow s cap).size + 1))).frozen? ⟨w.heap.size, j, none⟩ = _
    rw [World.frozen?_alloc_mark]
    have hle : s.size ≤ (bytesRow s cap).size := by
      unfold bytesRow
      rw [Array.size_append]
      simp
    rw [decide_eq_false (by omega)]
    rfl

theorem row_set {f : UInt8 → UInt8} {s : ByteArray} {B k : Nat} {wr : World} (h : Row f s B k wr) (hk : k < s.size) (v : Int) (hv : v = ((f s[k]).toNat : Int)) :
    Row f s B (k + 1) (wr.setCell ⟨B, k, none⟩ (.int .u8 v)) := by
  refine ⟨fun j hj => ?_, fun j hj => ?_⟩
  · by_cases e : j = k
    · subst e
      rw [World.cell?_setCell_same _ _ _ (h.1 j hj), if_pos (Nat.lt_succ_self _), hv]
    · rw [World.cell?_setCell_other _ _ _ _ (by simp), h.1 j hj]
      by_cases hl : j < k
      · rw [if_pos hl, if_pos (by omega)]
      · rw [if_neg hl, if_neg (by omega)]
  · rw [World.frozen?_setCell]; exact h.2 j hj
theorem row_keep {f : UInt8 → UInt8} {s : ByteArray} {B k : Nat} {wr : World} (h : Row f s B k wr) (hk : k < s.size) (hv : f s[k] = s[k]) : Row f s B (k + 1) wr := by
  refine ⟨fun j hj => ?_, h.2⟩
  rw [h.1 j hj]
  by_cases e : j = k
  · subst e
    rw [if_neg (Nat.lt_irrefl _), if_pos (Nat.lt_succ_self _), hv]
  · by_cases hl : j < k
    · rw [if_pos hl, if_pos (by omega)]
    · rw [if_neg hl, if_neg (by omega)]
theorem row_back {f : UInt8 → UInt8} {s : ByteArray} {B : Nat} {wr : World} {cap : Nat} (h : Row f s B s.size wr) :
    (convert 39 9 (.slice (some ⟨B, 0, none⟩) s.size cap)).run Tryf.prog wr = .ok (.string ⟨(s.data.toList.map f).toArray⟩) wr := by
  have hl : (s.data.toList.map f).length = s.size := by rw [List.length_map]; rfl
  have := run_convert_bytes_back (P := Tryf.prog) wr 39 9 5 ⟨B, 0, none⟩ cap (s.data.toList.map f) Tryf.underlying39 Tryf.underlying5 Tryf.underlying9 (fun j hj => by
    have hj' : j < s.size := by omega
    have := h.1 j hj'
    rw [if_pos hj'] at this
    have ea : (⟨B, 0, none⟩ : Addr).add j = ⟨B, j, none⟩ := by
      unfold Addr.add
      split
      · next h0 => subst h0; rfl
      · simp
    rw [ea, this, List.getElem_map]
    rfl)
  rwa [hl] at this
theorem fold_eq (b : UInt8) (v : Int) (h1 : 65 ≤ (b.toNat : Int)) (h2 : (b.toNat : Int) ≤ 90) (hv : v = (b.toNat : Int) + 32) : v = ((Pl.foldB b).toNat : Int) := by
  rw [Pl.fold_num, if_pos ⟨h1, h2⟩, hv]
theorem fold_id (b : UInt8) (h : ¬ (65 ≤ (b.toNat : Int) ∧ (b.toNat : Int) ≤ 90)) : Pl.foldB b = b := by
  unfold Pl.foldB; rw [if_neg (by omega)]

set_option maxHeartbeats 400000 in
theorem fold_any (s : ByteArray) (w : World) (hs : s.size ≤ maxLen) :
    Calls Tryf.prog 6 #[.string s] w fun e w' => e = .returned (.string ⟨(s.data.toList.map Pl.foldB).toArray⟩) ∧ Below w.heap.size w w' := by
  unfold maxLen at hs
  have hconv := run_bytes_of_string (P := Tryf.prog) w 9 39 5 s Tryf.underlying9 Tryf.underlying39 Tryf.underlying5
  go_enter Tryf.func6, Tryf.ntmps6
  go_wp2
  go_loopw [4] (fun i wr => ∃ k : Nat, k ≤ s.size ∧ i = .int .i64 k ∧ Row Pl.foldB s w.heap.size k wr ∧ Below w.heap.size w wr) (fun i _ => s.size - (intOf i).toNat)
  case atStart => exact ⟨0, Nat.zero_le _, rfl, row_start _ s w _, ((Below.refl _ w).alloc (Nat.le_refl _) _).drew⟩
  case round =>
    obtain ⟨k, hk, rfl, hrow, hb⟩ := hrel
    by_cases hlt : k < s.size
    · have hck : wr.cell? ⟨w.heap.size, k, none⟩ = some (.int .u8 (s[k].toNat : Int)) := by
        have := hrow.1 k hlt
        rwa [if_neg (Nat.lt_irrefl _)] at this
      have hfz := hrow.2 k hlt
      have hbd : (s[k].toNat : Int) < 256 := by have := s[k].toNat_lt; omega
      by_cases h65 : 65 ≤ (s[k].toNat : Int)
      · by_cases h90 : (s[k].toNat : Int) ≤ 90
        · go_wp2
          go_roundw
          case rel => exact ⟨k + 1, by omega, by go_num, row_set hrow hlt _ (fold_eq _ _ h65 h90 rfl), hb.setCell (Nat.le_refl _) _⟩
          case measure => simp [intOf]; omega
        · go_wp2
          go_roundw
          case rel => exact ⟨k + 1, by omega, by go_num, row_keep hrow hlt (fold_id _ (by omega)), hb⟩
          case measure => simp [intOf]; omega
      · go_wp2
        go_roundw
        case rel => exact ⟨k + 1, by omega, by go_num, row_keep hrow hlt (fold_id _ (by omega)), hb⟩
        case measure => simp [intOf]; omega
    · have he : k = s.size := by omega
      subst he
      have hbk := fun cap => row_back (cap := cap) hrow
      go_wp2
      go_ret
      exact ⟨rfl, hb⟩
end Go.Proofs.Qxb6608748aFmt
