/-
  WALKS: zzBytes, zzCountStars, isGlobstar; the plain facts on strings of asterisks.
-/
import Derived.Test.Qxb6612304aDoorChecked
import Derived.Test.Qxb6612304aDoorShelf
import Derived.WalkKit
import Derived.WalkSpells
import Derived.WalkLawsBesides
namespace Go.Proofs.Qxb6612304aDoor
open Go.RowKit

def allS (l : List UInt8) : Bool := l.all (· == 42)
def cnt (l : List UInt8) : Nat := (l.filter (· == 42)).length
def gs (l : List UInt8) : Bool := decide (2 ≤ l.length) && allS l
theorem cnt_le (l : List UInt8) : cnt l ≤ l.length := List.length_filter_le _ _
theorem cnt_all {l : List UInt8} (h : allS l = true) : cnt l = l.length := by
  unfold cnt
  rw [List.filter_eq_self.2 (fun a ha => List.all_eq_true.1 h a ha)]
theorem cnt_not {l : List UInt8} (h : allS l = false) : cnt l < l.length := by
  rcases Nat.lt_or_ge (cnt l) l.length with h1 | h1
  · exact h1
  · have e : (l.filter (· == 42)).length = l.length := Nat.le_antisymm (cnt_le l) h1
    have h2 := List.length_filter_eq_length_iff.1 e
    have : allS l = true := List.all_eq_true.2 h2
    rw [h] at this
    cases this
theorem cnt_snoc (l : List UInt8) (c : UInt8) : (cnt (l ++ [c]) : Int) = cnt l + if (c.toNat : Int) = 42 then 1 else 0 := by
  unfold cnt
  rw [List.filter_append]
  by_cases h : c = 42
  · subst h
    simp
  · have h' : ¬ (c.toNat : Int) = 42 := fun e => h (UInt8.toNat_inj.1 (by show c.toNat = 42; omega))
    rw [if_neg h']
    simp [h]
theorem dw_nil (p : UInt8 → Bool) : ∀ l : List UInt8, l.dropWhile p = [] ↔ ∀ a ∈ l, p a = true
  | [] => by simp
  | x :: r => by
    rw [List.dropWhile_cons]
    by_cases hx : p x = true
    · rw [if_pos hx, dw_nil p r]
      simp [hx]
    · rw [if_neg hx]
      simp [hx]
theorem dropWhile_all {l : List UInt8} (h : allS l = true) : l.dropWhile (· == 42) = [] := (dw_nil _ _).2 (fun a ha => List.all_eq_true.1 h a ha)
theorem trim_all {l : List UInt8} (h : allS l = true) : Lib.trimB l 42 = [] := by
  unfold Lib.trimB Lib.trimRightB Lib.trimLeftB
  have : allS l.reverse = true := by unfold allS at *; rw [List.all_reverse]; exact h
  rw [dropWhile_all this]
  rfl
theorem trim_not {l : List UInt8} (h : allS l = false) : Lib.trimB l 42 ≠ [] := by
  unfold Lib.trimB Lib.trimRightB Lib.trimLeftB
  intro e
  have h1 := (dw_nil _ _).1 e
  have h2 : ∀ x ∈ l.reverse.dropWhile (· == 42), (x == 42) = true := fun x hx => h1 x (List.mem_reverse.2 hx)
  have h3 : l.reverse.dropWhile (· == 42) = [] := by
    cases hd : l.reverse.dropWhile (· == 42) with
    | nil => rfl
    | cons a r =>
      have ha := h2 a (by rw [hd]; exact List.mem_cons_self ..)
      have := List.head?_dropWhile_not (· == (42 : UInt8)) l.reverse
      rw [hd] at this
      simp at this
      simp at ha
      exact absurd ha this
  have h4 := (dw_nil _ _).1 h3
  have : allS l = true := List.all_eq_true.2 (fun a ha => h4 a (List.mem_reverse.2 ha))
  rw [h] at this
  cases this

theorem bdN {B : Nat} {a w : World} (h : Below B a w) (q : Nat) : Below B a (w.drewN q) := ⟨h.os, h.tape, h.output, h.size, h.block⟩
/-- The call answers some bool. -/
def SaysBool (e : Ending) : Prop := ∃ b : Bool, e = .returned (.bool b)
theorem says (b : Bool) : SaysBool (.returned (.bool b)) := ⟨b, rfl⟩
set_option maxHeartbeats 400000 in
theorem bytesA (s : ByteArray) (w : World) (hs : s.size ≤ maxLen) : Calls Tryd.prog 5 #[.string s] w fun e w' => SaysBool e ∧ w' = w := by
  unfold maxLen at hs
  go_enter Tryd.func5, Tryd.ntmps5
  go_wp2
  all_goals
    go_ret
    exact ⟨says _, rfl⟩
set_option maxHeartbeats 400000 in
theorem bytesB (s : ByteArray) (w : World) (hs : s.size ≤ maxLen) : Calls Tryd.prog 8 #[.string s] w fun e w' => SaysBool e ∧ w' = w := by
  unfold maxLen at hs
  go_enter Tryd.func8, Tryd.ntmps8
  go_wp2
  all_goals
    go_ret
    exact ⟨says _, rfl⟩

theorem take_snoc (s : ByteArray) (k : Nat) (h : k < s.size) : s.data.toList.take (k + 1) = s.data.toList.take k ++ [s[k]] := by
  rw [List.take_succ_eq_append_getElem (by simpa using h)]; rfl
theorem ret_i64 {a b : Int} (h : a = b) : Ending.returned (.int .i64 a) = .returned (.int .i64 b) := by rw [h]

set_option maxHeartbeats 400000 in
theorem count_any (s : ByteArray) (w : World) (hs : s.size ≤ 1048576) :
    Calls Tryd.prog 6 #[.string s] w fun e w' => e = .returned (.int .i64 (cnt s.data.toList)) ∧ w' = w := by
  go_enter Tryd.func6, Tryd.ntmps6
  go_wp2
  go_loop [3, 4] (fun n i => ∃ k : Nat, k ≤ s.size ∧ i = .int .i64 k ∧ n = .int .i64 (cnt (s.data.toList.take k))) (fun _ i => s.size - (intOf i).toNat)
  case atStart => exact ⟨0, Nat.zero_le _, rfl, rfl⟩
  case round =>
    obtain ⟨k, hk, rfl, rfl⟩ := hrel
    have hc := cnt_le (s.data.toList.take k)
    rw [List.length_take] at hc
    have hc' : cnt (s.data.toList.take k) ≤ k := by omega
    rcases Nat.lt_or_ge k s.size with hlt | hge
    · have HS : Hid ((cnt (s.data.toList.take (k + 1)) : Int) = cnt (s.data.toList.take k) + if (s[k].toNat : Int) = 42 then 1 else 0) := by
        show (cnt (s.data.toList.take (k + 1)) : Int) = _
        rw [take_snoc s k hlt, cnt_snoc]
      clear hc
      by_cases h42 : (s[k].toNat : Int) = 42
      · have h1 : 42 ≤ (s[k].toNat : Int) := by omega
        have h2 : (s[k].toNat : Int) ≤ 42 := by omega
        have HH : Hid ((s[k].toNat : Int) = 42) := h42
        clear h42
        go_wp2
        go_round
        case rel => exact ⟨k + 1, by omega, by go_num, by rw [HS.out, if_pos HH.out]⟩
        case measure => simp [intOf]; omega
      · rcases (by omega : (s[k].toNat : Int) < 42 ∨ 42 < (s[k].toNat : Int)) with h | h
        all_goals
          have HH : Hid (¬ (s[k].toNat : Int) = 42) := h42
          clear h42
          go_wp2
          go_round
          case rel => exact ⟨k + 1, by omega, by go_num, by rw [HS.out, if_neg HH.out, Int.add_zero]⟩
          case measure => simp [intOf]; omega
    · go_wp2
      go_ret
      exact ⟨ret_i64 (by rw [List.take_of_length_le (by simp; omega)]), rfl⟩

set_option maxHeartbeats 400000 in
theorem glob_any (s : ByteArray) (w : World) (hs : s.size ≤ 1048576) :
    Calls Tryd.prog 9 #[.string s] w fun e w' => e = .returned (.bool (gs s.data.toList)) ∧ ∃ q, w' = w.drewN q := by
  have hlen : s.data.toList.length = s.size := rfl
  rcases Int.lt_or_le (s.size : Int) 2 with h2 | h2
  · have e : gs s.data.toList = false := by
      unfold gs
      rw [decide_eq_false (by omega)]
      rfl
    rw [e]
    clear e
    go_enter Tryd.func9, Tryd.ntmps9
    go_wp2
    go_ret
    exact ⟨rfl, 0, rfl⟩
  · have HT : Hid (Calls Tryd.prog 10 #[.string s, .string ⟨#[42]⟩] w fun e w' => e = .returned (.string ⟨(Lib.trimB s.data.toList 42).toArray⟩) ∧ (w' = w ∨ w' = w.drew)) := Tryd.strings_Trim_one s 42 (by decide) w (by omega)
    have e : gs s.data.toList = allS s.data.toList := by
      unfold gs
      rw [decide_eq_true (by omega)]
      rfl
    rw [e]
    clear e
    by_cases ha : allS s.data.toList = true
    · rw [trim_all ha] at HT
      rw [ha]
      clear ha hlen
      go_enter Tryd.func9, Tryd.ntmps9
      go_wp2_with fail
      refine HT.out.mono ?_
      rintro e w' ⟨rfl, hw⟩
      obtain ⟨q, rfl⟩ : ∃ q, w' = w.drewN q := hw.elim (fun h => ⟨0, h⟩) (fun h => ⟨1, h⟩)
      go_wp2
      go_ret
      exact ⟨rfl, q, rfl⟩
    · have ha' : allS s.data.toList = false := by simpa using ha
      obtain ⟨x, r, hx⟩ := List.exists_cons_of_ne_nil (trim_not ha')
      rw [hx] at HT
      rw [ha']
      clear ha ha' hlen hx
      go_enter Tryd.func9, Tryd.ntmps9
      go_wp2_with fail
      refine HT.out.mono ?_
      rintro e w' ⟨rfl, hw⟩
      obtain ⟨q, rfl⟩ : ∃ q, w' = w.drewN q := hw.elim (fun h => ⟨0, h⟩) (fun h => ⟨1, h⟩)
      go_wp2
      go_ret
      exact ⟨by simp, q, rfl⟩

set_option maxHeartbeats 400000 in
theorem zzglob (s : ByteArray) (w : World) (hs : s.size ≤ 1048576) (b : Bool) (hb : gs s.data.toList = b) :
    Calls Tryd.prog 7 #[.string s] w fun e w' => e = .returned (.bool b) ∧ ∃ q, w' = w.drewN q := by
  have HT : Hid (Calls Tryd.prog 9 #[.string s] w fun e w' => e = .returned (.bool b) ∧ ∃ q, w' = w.drewN q) := by rw [← hb]; exact glob_any s w hs
  clear hb
  go_enter Tryd.func7, Tryd.ntmps7
  go_wp2_with fail
  refine HT.out.mono ?_
  rintro e w' ⟨rfl, q, rfl⟩
  go_wp2
  go_ret
  exact ⟨rfl, q, rfl⟩
end Go.Proofs.Qxb6612304aDoor
