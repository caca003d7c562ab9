/-
  WALKS: the two laws.
-/
import Derived.Test.Qxb6612304aDoorWalkA
namespace Go.Proofs.Qxb6612304aDoor
open Go.RowKit

set_option maxHeartbeats 800000 in
theorem lawOne (s : ByteArray) (w : World) (hs : s.size ≤ maxLen) : Calls Tryd.prog 3 #[.string s] w fun e w' => e = .returned (.bool true) ∧ Below w.heap.size w w' := by
  have HB : Hid (Calls Tryd.prog 5 #[.string s] w fun e w' => SaysBool e ∧ w' = w) := bytesA s w hs
  unfold maxLen at hs
  rcases Int.lt_or_le 1048576 (s.size : Int) with hbig | hbig
  · go_enter Tryd.func3, Tryd.ntmps3
    go_wp2_with fail
    refine HB.out.mono ?_
    rintro e w' ⟨⟨q, rfl⟩, hw⟩
    have hw' := hw.symm
    subst hw'
    cases q
    all_goals
      go_wp2
      go_ret
      exact ⟨rfl, Below.refl _ _⟩
  · obtain ⟨n, hn⟩ : ∃ n : Nat, n = cnt s.data.toList := ⟨_, rfl⟩
    have HC : Hid (Calls Tryd.prog 6 #[.string s] w fun e w' => e = .returned (.int .i64 n) ∧ w' = w) := by rw [hn]; exact count_any s w (by omega)
    obtain ⟨b, hb⟩ : ∃ b : Bool, gs s.data.toList = b := ⟨_, rfl⟩
    have HG : Hid (Calls Tryd.prog 7 #[.string s] w fun e w' => e = .returned (.bool b) ∧ ∃ q, w' = w.drewN q) := zzglob s w (by omega) b hb
    have hlen : s.data.toList.length = s.size := rfl
    have hcase : (b = true ∧ n = s.size ∧ 2 ≤ s.size) ∨ (b = false ∧ n = s.size ∧ s.size < 2) ∨ (b = false ∧ n < s.size) := by
      by_cases ha : allS s.data.toList = true
      · have h1 := cnt_all ha
        by_cases h2 : 2 ≤ s.size
        · left
          refine ⟨?_, by omega, h2⟩
          rw [← hb]; unfold gs; rw [decide_eq_true (by omega), ha]; rfl
        · right; left
          refine ⟨?_, by omega, by omega⟩
          rw [← hb]; unfold gs; rw [decide_eq_false (by omega)]; rfl
      · have ha' : allS s.data.toList = false := by simpa using ha
        have h1 := cnt_not ha'
        right; right
        refine ⟨?_, by omega⟩
        rw [← hb]; unfold gs; rw [ha']; simp
    clear hn hb hlen
    rcases hcase with ⟨rfl, rfl, h2⟩ | ⟨rfl, rfl, h2⟩ | ⟨rfl, h2⟩
    all_goals
      go_enter Tryd.func3, Tryd.ntmps3
      go_wp2_with fail
      refine HB.out.mono ?_
      rintro e w' ⟨⟨q, rfl⟩, hw⟩
      have hw' := hw.symm
      subst hw'
      cases q
      · go_wp2
        go_ret
        exact ⟨rfl, Below.refl _ _⟩
      · go_wp2_with fail
        refine HC.out.mono ?_
        rintro e w' ⟨rfl, hw⟩
        have hw' := hw.symm
        subst hw'
        go_wp2_with fail
        refine HG.out.mono ?_
        rintro e w' ⟨rfl, q, rfl⟩
        go_wp2
        go_ret
        exact ⟨by first | rfl | (simp; omega), bdN (Below.refl _ _) q⟩

theorem data_twice (s : ByteArray) : (s ++ s).data.toList = s.data.toList ++ s.data.toList := by
  rw [ByteArray.data_append, Array.toList_append]
theorem gs_twice (l : List UInt8) : gs (l ++ l) = (decide (1 ≤ l.length) && allS l) := by
  unfold gs allS
  rw [List.all_append, List.length_append, Bool.and_self]
  congr 1
  rw [Bool.eq_iff_iff]
  simp
  omega
theorem toList_eq (s : ByteArray) : s.toList = s.data.toList := Lib.toList_data s
theorem star_not (s : ByteArray) (h : s.size ≠ 1) : (s.toList == [42]) = false := by
  rw [toList_eq]
  apply Bool.eq_false_iff.2
  intro e
  have := congrArg List.length (beq_iff_eq.1 e)
  exact h this

set_option maxHeartbeats 1600000 in
theorem lawTwo (s : ByteArray) (w : World) (hs : s.size ≤ maxLen) : Calls Tryd.prog 4 #[.string s] w fun e w' => e = .returned (.bool true) ∧ Below w.heap.size w w' := by
  have HB : Hid (Calls Tryd.prog 8 #[.string s] w fun e w' => SaysBool e ∧ w' = w) := bytesB s w hs
  unfold maxLen at hs
  rcases Int.lt_or_le 524288 (s.size : Int) with hbig | hbig
  · go_enter Tryd.func4, Tryd.ntmps4
    go_wp2_with fail
    refine HB.out.mono ?_
    rintro e w' ⟨⟨q, rfl⟩, hw⟩
    have hw' := hw.symm
    subst hw'
    cases q
    all_goals
      go_wp2
      go_ret
      exact ⟨rfl, Below.refl _ _⟩
  · obtain ⟨n, hn⟩ : ∃ n : Nat, n = cnt s.data.toList := ⟨_, rfl⟩
    have HC : Hid (∀ W, Calls Tryd.prog 6 #[.string s] W fun e w' => e = .returned (.int .i64 n) ∧ w' = W) := fun W => by rw [hn]; exact count_any s W (by omega)
    obtain ⟨b, hb⟩ : ∃ b : Bool, gs s.data.toList = b := ⟨_, rfl⟩
    have HG : Hid (∀ W, Calls Tryd.prog 7 #[.string s] W fun e w' => e = .returned (.bool b) ∧ ∃ q, w' = W.drewN q) := fun W => zzglob s W (by omega) b hb
    obtain ⟨d, hd⟩ : ∃ d : Bool, gs (s ++ s).data.toList = d := ⟨_, rfl⟩
    have HD : Hid (∀ W, Calls Tryd.prog 7 #[.string (s ++ s)] W fun e w' => e = .returned (.bool d) ∧ ∃ q, w' = W.drewN q) := fun W => zzglob (s ++ s) W (by rw [ByteArray.size_append]; omega) d hd
    have hlen : s.data.toList.length = s.size := rfl
    rw [data_twice, gs_twice, hlen] at hd
    have hcase : (d = true ∧ b = true ∧ n = s.size ∧ 2 ≤ s.size) ∨ (d = true ∧ b = false ∧ n = s.size ∧ s = ⟨#[42]⟩) ∨ (d = false ∧ b = false ∧ n = s.size ∧ s.size = 0) ∨ (d = false ∧ b = false ∧ n < s.size) := by
      by_cases ha : allS s.data.toList = true
      · have h1 := cnt_all ha
        rw [ha, Bool.and_true] at hd
        have hb2 : decide (2 ≤ s.size) = b := by
          rw [← hb]; unfold gs; rw [ha, hlen, Bool.and_true]
        by_cases h2 : 2 ≤ s.size
        · left
          exact ⟨by rw [← hd]; exact decide_eq_true (by omega), by rw [← hb2]; exact decide_eq_true h2, by omega, h2⟩
        · by_cases h3 : s.size = 0
          · right; right; left
            exact ⟨by rw [← hd]; exact decide_eq_false (by omega), by rw [← hb2]; exact decide_eq_false h2, by omega, h3⟩
          · right; left
            refine ⟨by rw [← hd]; exact decide_eq_true (by omega), by rw [← hb2]; exact decide_eq_false h2, by omega, ?_⟩
            have h4 : s.data.toList.length = 1 := by omega
            obtain ⟨x, hx⟩ := List.length_eq_one_iff.1 h4
            have h5 : x = 42 := by
              unfold allS at ha
              rw [hx] at ha
              simpa using ha
            apply ByteArray.ext
            apply Array.ext'
            rw [hx, h5]
      · have ha' : allS s.data.toList = false := by simpa using ha
        have h1 := cnt_not ha'
        right; right; right
        refine ⟨?_, ?_, by omega⟩
        · rw [← hd, ha', Bool.and_false]
        · rw [← hb]; unfold gs; rw [ha', Bool.and_false]
    clear hn hb hlen hd
    rcases hcase with ⟨rfl, rfl, rfl, h2⟩ | ⟨rfl, rfl, rfl, h2⟩ | ⟨rfl, rfl, rfl, h2⟩ | ⟨rfl, rfl, h2⟩
    · have hst := star_not s (by omega)
      have h2' : (2 : Int) ≤ (s.size : Int) := by omega
      go_enter Tryd.func4, Tryd.ntmps4
      go_wp2_with fail
      refine HB.out.mono ?_
      rintro e w' ⟨⟨q, rfl⟩, hw⟩
      have hw' := hw.symm
      subst hw'
      cases q
      · go_wp2
        go_ret
        exact ⟨rfl, Below.refl _ _⟩
      · go_wp2_with fail
        refine (HD.out _).mono ?_
        rintro e w' ⟨rfl, q, rfl⟩
        go_wp2_with fail
        refine (HG.out _).mono ?_
        rintro e w' ⟨rfl, q2, rfl⟩
        go_wp2_with fail
        refine (HC.out _).mono ?_
        rintro e w' ⟨rfl, hw⟩
        have hw' := hw.symm
        subst hw'
        go_wp2
        go_ret
        refine ⟨?_, ?_⟩
        · first | rfl | (simp; omega)
        · first | exact bdN (Below.refl _ _) _ | exact bdN (bdN (Below.refl _ _) _) _
    · subst h2
      go_enter Tryd.func4, Tryd.ntmps4
      go_wp2_with fail
      refine HB.out.mono ?_
      rintro e w' ⟨⟨q, rfl⟩, hw⟩
      have hw' := hw.symm
      subst hw'
      cases q
      · go_wp2
        go_ret
        exact ⟨rfl, Below.refl _ _⟩
      · go_wp2_with fail
        refine (HD.out _).mono ?_
        rintro e w' ⟨rfl, q, rfl⟩
        go_wp2_with fail
        refine (HG.out _).mono ?_
        rintro e w' ⟨rfl, q2, rfl⟩
        go_wp2_with fail
        refine (HC.out _).mono ?_
        rintro e w' ⟨rfl, hw⟩
        have hw' := hw.symm
        subst hw'
        go_wp2
        go_ret
        refine ⟨?_, ?_⟩
        · first | rfl | (simp; omega)
        · first | exact bdN (Below.refl _ _) _ | exact bdN (bdN (Below.refl _ _) _) _
    · have h2' : (s.size : Int) < 1 := by omega
      go_enter Tryd.func4, Tryd.ntmps4
      go_wp2_with fail
      refine HB.out.mono ?_
      rintro e w' ⟨⟨q, rfl⟩, hw⟩
      have hw' := hw.symm
      subst hw'
      cases q
      · go_wp2
        go_ret
        exact ⟨rfl, Below.refl _ _⟩
      · go_wp2_with fail
        refine (HD.out _).mono ?_
        rintro e w' ⟨rfl, q, rfl⟩
        go_wp2_with fail
        refine (HG.out _).mono ?_
        rintro e w' ⟨rfl, q2, rfl⟩
        go_wp2_with fail
        refine (HC.out _).mono ?_
        rintro e w' ⟨rfl, hw⟩
        have hw' := hw.symm
        subst hw'
        go_wp2
        go_ret
        refine ⟨?_, ?_⟩
        · first | rfl | (simp; omega)
        · first | exact bdN (Below.refl _ _) _ | exact bdN (bdN (Below.refl _ _) _) _
    · have h2' : (n : Int) < (s.size : Int) := by omega
      go_enter Tryd.func4, Tryd.ntmps4
      go_wp2_with fail
      refine HB.out.mono ?_
      rintro e w' ⟨⟨q, rfl⟩, hw⟩
      have hw' := hw.symm
      subst hw'
      cases q
      · go_wp2
        go_ret
        exact ⟨rfl, Below.refl _ _⟩
      · go_wp2_with fail
        refine (HD.out _).mono ?_
        rintro e w' ⟨rfl, q, rfl⟩
        go_wp2_with fail
        refine (HG.out _).mono ?_
        rintro e w' ⟨rfl, q2, rfl⟩
        go_wp2_with fail
        refine (HC.out _).mono ?_
        rintro e w' ⟨rfl, hw⟩
        have hw' := hw.symm
        subst hw'
        go_wp2
        go_ret
        refine ⟨?_, ?_⟩
        · first | rfl | (simp; omega)
        · first | exact bdN (Below.refl _ _) _ | exact bdN (bdN (Below.refl _ _) _) _
end Go.Proofs.Qxb6612304aDoor
