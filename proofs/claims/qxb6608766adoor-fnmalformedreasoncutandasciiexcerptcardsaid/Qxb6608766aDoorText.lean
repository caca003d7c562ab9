/-
  PLAIN: what the message looks like: its first byte, its last ones, its tail.
-/
import Derived.Test.Qxb6608766aDoorWalkI
namespace Go.Proofs.Qxb6608766aDoor
open Go.RowKit

theorem QS_list (T : Lib.PrintTabs) (l : List UInt8) : ∃ m : List UInt8, (QS T l).data.toList = 34 :: (m ++ [34]) := by
  refine ⟨(Lib.quoteFrom T (⟨l.toArray⟩ : ByteArray).size ⟨l.toArray⟩).map fun n => UInt8.ofNat n.toNat, ?_⟩
  unfold QS strOfNums Lib.quoteZ
  simp
theorem exS_list (T : Lib.PrintTabs) (t : List UInt8) : ∃ m : List UInt8, (exS T t).data.toList = 34 :: (m ++ 34 :: (if Pl.firstEnd t < t.length ∨ t.length ≤ 32 then [] else [46, 46, 46])) := by
  unfold exS
  by_cases h1 : Pl.firstEnd t < t.length
  · rw [if_pos h1, if_pos (Or.inl h1)]
    exact QS_list T _
  · rw [if_neg h1]
    by_cases h2 : t.length ≤ 32
    · rw [if_pos h2, if_pos (Or.inr h2)]
      exact QS_list T _
    · rw [if_neg h2, if_neg (by omega)]
      obtain ⟨m, hm⟩ := QS_list T (t.take (Pl.cutOf t))
      refine ⟨m, ?_⟩
      rw [ByteArray.data_append, Array.toList_append, hm]
      simp [dots]
theorem past_iff (t : List UInt8) : past t = true ↔ ¬ (Pl.firstEnd (t.take 33) < (t.take 33).length ∨ (t.take 33).length ≤ 32) := by
  unfold past
  rw [decide_eq_true_eq, List.length_take]
  have hle := Pl.firstEnd_le t
  constructor
  · rintro ⟨h1, h2⟩
    have e : Pl.firstEnd (t.take 33) = (t.take 33).length := Pl.firstEnd_none (fun j hj => by
      rw [List.length_take] at hj
      rw [List.getElem_take]
      exact Pl.not_end_before _ (by omega))
    rw [List.length_take] at e
    omega
  · intro h
    have hlen : 33 ≤ t.length := by omega
    refine ⟨hlen, ?_⟩
    rcases Nat.lt_or_ge (Pl.firstEnd t) 33 with hlt | hge
    · exfalso
      apply h
      left
      have : Pl.firstEnd (t.take 33) = Pl.firstEnd t := Pl.firstEnd_at (by rw [List.length_take]; omega) (fun j hj hjk => by
        rw [List.getElem_take]; exact Pl.not_end_before _ hjk) (by rw [List.getElem_take]; exact Pl.end_at_first (by omega))
      omega
    · exact hge

theorem colon_size : colon.size = 2 := rfl
theorem head_eq (X s : ByteArray) : (X ++ colon ++ s).extract 0 X.size = X := by
  rw [ByteArray.append_assoc]; exact ByteArray.extract_append_eq_left rfl
theorem tail_eq (X s : ByteArray) : (X ++ colon ++ s).extract X.size (X.size + 2 + s.size) = ⟨#[58, 32]⟩ ++ s := by
  rw [ByteArray.append_assoc]
  refine ByteArray.extract_append_eq_right rfl ?_
  rw [ByteArray.size_append, colon_size]; omega
theorem size_toList (x : ByteArray) : x.size = x.data.toList.length := rfl
theorem get_toList (x : ByteArray) (i : Nat) (h : i < x.size) : x[i] = x.data.toList[i]'h := rfl
theorem exOf_two (T : Lib.PrintTabs) (l : List UInt8) (off : Nat) : 2 ≤ (exOf T l off).size := by
  obtain ⟨m, hm⟩ := exS_list T ((l.drop off).take 33)
  rw [size_toList]
  unfold exOf
  rw [hm]
  simp only [List.length_cons, List.length_append]
  omega
theorem exOf_head (T : Lib.PrintTabs) (l : List UInt8) (off : Nat) (Y : ByteArray) (h : 0 < (exOf T l off ++ Y).size) : (exOf T l off ++ Y)[0] = 34 := by
  have h2 := exOf_two T l off
  rw [ByteArray.getElem_append_left (by omega), get_toList]
  obtain ⟨m, hm⟩ := exS_list T ((l.drop off).take 33)
  unfold exOf
  simp only [hm, List.getElem_cons_zero]
/-- Its text runs on past the cut: it ends in a quote and three dots. -/
theorem exOf_past (T : Lib.PrintTabs) (l : List UInt8) (off : Nat) (hp : past (l.drop off) = true) :
    5 ≤ (exOf T l off).size ∧ (exOf T l off).extract ((exOf T l off).size - 4) (exOf T l off).size = ⟨#[34, 46, 46, 46]⟩ := by
  obtain ⟨m, hm⟩ := exS_list T ((l.drop off).take 33)
  rw [if_neg ((past_iff _).1 hp)] at hm
  have hsz : (exOf T l off).size = m.length + 5 := by
    rw [size_toList]
    unfold exOf
    rw [hm]
    simp
  refine ⟨by omega, ?_⟩
  apply ByteArray.ext
  apply Array.ext'
  rw [Lib.extract_data, hsz]
  unfold exOf
  rw [hm]
  have e : m.length + 5 - 4 = m.length + 1 := by omega
  rw [e]
  simp
/-- Else it ends in a quote. -/
theorem exOf_last (T : Lib.PrintTabs) (l : List UInt8) (off : Nat) (hp : past (l.drop off) = false) (h : (exOf T l off).size - 1 < (exOf T l off).size) : (exOf T l off)[(exOf T l off).size - 1] = 34 := by
  obtain ⟨m, hm⟩ := exS_list T ((l.drop off).take 33)
  have hc : Pl.firstEnd ((l.drop off).take 33) < ((l.drop off).take 33).length ∨ ((l.drop off).take 33).length ≤ 32 := by
    apply Classical.byContradiction
    intro hn
    have := (past_iff (l.drop off)).2 hn
    rw [hp] at this
    cases this
  rw [if_pos hc] at hm
  have hsz : (exOf T l off).size = m.length + 2 := by
    rw [size_toList]
    unfold exOf
    rw [hm]
    simp
  rw [get_toList]
  have hx : (exOf T l off).data.toList = 34 :: (m ++ [34]) := hm
  simp only [hx, hsz]
  have e : m.length + 2 - 1 = m.length + 1 := by omega
  simp [e]
end Go.Proofs.Qxb6608766aDoor
