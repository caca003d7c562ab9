/-
  WALKS: bytes.IndexFunc with endsExcerpt.
-/
import Derived.Test.Qxb6608766aDoorWalkF
namespace Go.Proofs.Qxb6608766aDoor
open Go.RowKit

theorem BytesOff.drop {w : World} {B off : Nat} {t : List UInt8} (h : BytesOff w B off t) (k : Nat) : BytesOff w B (off + k) (t.drop k) := fun j hj => by
  have hj' : k + j < t.length := by rw [List.length_drop] at hj; omega
  rw [Nat.add_assoc, h (k + j) hj', List.getElem_drop]
theorem BytesOff.take {w : World} {B off : Nat} {t : List UInt8} (h : BytesOff w B off t) (k : Nat) : BytesOff w B off (t.take k) := fun j hj => by
  have hj' : j < t.length := by rw [List.length_take] at hj; omega
  rw [h j hj', List.getElem_take]
theorem BytesOff.below {w w' : World} {B off : Nat} {t : List UInt8} (h : BytesOff w B off t) (hB : B < w.heap.size) (hb : Below w.heap.size w w') : BytesOff w' B off t := fun j hj =>
  (hb.cell (p := ⟨B, off + j, none⟩) hB).trans (h j hj)
def idxOf (t : List UInt8) : Int := if Pl.firstEnd t < t.length then (Pl.firstEnd t : Int) else -1
theorem ret_i64 {a b : Int} (h : a = b) : Ending.returned (.int .i64 a) = .returned (.int .i64 b) := by rw [h]

/-- One step of the search: behind a rune that is no end the first end lies further on. -/
theorem first_beyond {t : List UInt8} {k : Nat} (hk : k < t.length) (hf : k ≤ Pl.firstEnd t) (he : endN ((Lib.decodeL (t.drop k)).1 : Int) = false) :
    k + (Lib.decodeL (t.drop k)).2 ≤ Pl.firstEnd t ∧ k + (Lib.decodeL (t.drop k)).2 ≤ t.length := by
  have hpos : 0 < (t.drop k).length := by rw [List.length_drop]; omega
  have hle := Lib.decodeL_le (t.drop k) (List.ne_nil_of_length_pos hpos)
  rw [List.length_drop] at hle
  refine ⟨?_, by omega⟩
  have h2 := (dec_ends (t.drop k) hpos).2 he
  rcases Nat.lt_or_ge (Pl.firstEnd t) (k + (Lib.decodeL (t.drop k)).2) with hlt | hge
  · have hin : Pl.firstEnd t < t.length := by omega
    have hend := Pl.end_at_first hin
    have := h2 (Pl.firstEnd t - k) (by rw [List.length_drop]; omega) (by omega)
    rw [List.getElem_drop] at this
    have e : k + (Pl.firstEnd t - k) = Pl.firstEnd t := by omega
    simp only [e] at this
    rw [hend] at this
    cases this
  · exact hge
theorem first_now {t : List UInt8} {k : Nat} (hk : k < t.length) (hf : k ≤ Pl.firstEnd t) (he : endN ((Lib.decodeL (t.drop k)).1 : Int) = true) : Pl.firstEnd t = k := by
  have hpos : 0 < (t.drop k).length := by rw [List.length_drop]; omega
  have h1 := (dec_ends (t.drop k) hpos).1 he
  rw [List.getElem_drop] at h1
  exact Pl.firstEnd_at hk (fun j h hj => Pl.not_end_before h (by omega)) (by simpa using h1)

set_option maxHeartbeats 800000 in
theorem idx_some (B off c : Nat) (t : List UInt8) (w : World) (hl : t.length ≤ 1048576) (hcap : t.length ≤ c) (hB : B < w.heap.size) (hc : BytesOff w B off t) (hT : Lib.Utf8Tabs 3 4 w) :
    Calls Tryd.prog 41 #[.slice (some ⟨B, off, none⟩) t.length c, .func (.func 34) #[] #[], .bool true] w fun e w' => e = .returned (.int .i64 (idxOf t)) ∧ Below w.heap.size w w' := by
  have HC : Hid (BytesOff w B off t) := hc
  have HT : Hid (Lib.Utf8Tabs 3 4 w) := hT
  clear hc hT
  go_enter Tryd.func41, Tryd.ntmps41
  go_wp2
  go_loopw [7] (fun i wr => ∃ k : Nat, k ≤ t.length ∧ i = .int .i64 k ∧ k ≤ Pl.firstEnd t ∧ Below w.heap.size w wr) (fun i _ => t.length - (intOf i).toNat)
  case atStart => exact ⟨0, by omega, rfl, by omega, Below.refl _ _⟩
  case round =>
    obtain ⟨k, hk, rfl, hf, hbel⟩ := hrel
    rcases Nat.lt_or_ge k t.length with hlt | hge
    · have hd := dec_any B (off + k) (c - k) (t.drop k) wr (by rw [List.length_drop]; omega) ((HC.out.drop k).below hB hbel) (Utf8Tabs_below HT.out hbel)
      rw [List.length_drop] at hd
      obtain ⟨r, hr⟩ : ∃ r : Int, r = ((Lib.decodeL (t.drop k)).1 : Int) := ⟨_, rfl⟩
      obtain ⟨d, hdw⟩ : ∃ d : Nat, d = (Lib.decodeL (t.drop k)).2 := ⟨_, rfl⟩
      have hw1 := Lib.decodeL_width (t.drop k)
      have hle := Lib.decodeL_le (t.drop k) (List.ne_nil_of_length_pos (by rw [List.length_drop]; omega))
      rw [List.length_drop] at hle
      rw [← hr, ← hdw] at hd
      rw [← hdw] at hw1 hle
      have hr0 : 0 ≤ r := by omega
      have HR : Hid (r = ((Lib.decodeL (t.drop k)).1 : Int)) := hr
      have HDW : Hid (d = (Lib.decodeL (t.drop k)).2) := hdw
      have HD : Hid (Calls Tryd.prog 39 #[.slice (some ⟨B, off + k, none⟩) (t.length - k) (c - k)] wr fun e w' => e = .returned (.tuple #[.int .i32 r, .int .i64 d]) ∧ Below wr.heap.size wr w') := hd
      clear hr hdw hd
      go_wp2_with fail
      refine HD.out.mono ?_
      rintro e w1 ⟨rfl, hb1⟩
      have hbw1 : Below w.heap.size w w1 := hbel.trans (hb1.mono hbel.size)
      have HE : Hid (Calls Tryd.prog 34 #[.int .i32 r] w1 fun e w' => e = .returned (.bool (endN r)) ∧ w' = w1) := ends_any r w1 hr0
      clear HD hb1
      go_wp2_with fail
      refine HE.out.mono ?_
      rintro e w2 ⟨rfl, hw⟩
      have hw' := hw.symm
      subst hw'
      clear HE
      by_cases he : endN r = true
      · have hfin : Hid (idxOf t = (k : Int)) := by
          have := first_now hlt hf (by rw [← HR.out]; exact he)
          show idxOf t = k
          unfold idxOf
          rw [if_pos (by omega), this]
        rw [he]
        clear he
        go_wp2
        go_ret
        exact ⟨ret_i64 hfin.out.symm, hbw1⟩
      · have he' : endN r = false := by simpa using he
        have hnx := first_beyond hlt hf (by rw [← HR.out]; exact he')
        rw [← HDW.out] at hnx
        obtain ⟨hn1, hn2⟩ := hnx
        rw [he']
        clear he he'
        go_wp2
        go_roundw
        case rel => exact ⟨k + d, hn2, by go_num, hn1, hbw1⟩
        case measure => simp [intOf]; omega
    · have hfin : Hid (idxOf t = -1) := by
        have := Pl.firstEnd_le t
        show idxOf t = -1
        unfold idxOf
        rw [if_neg (by omega)]
      go_wp2
      go_ret
      exact ⟨ret_i64 hfin.out.symm, hbel⟩

set_option maxHeartbeats 400000 in
theorem idx_none (p : Option Addr) (c : Nat) (w : World) :
    Calls Tryd.prog 41 #[.slice p 0 c, .func (.func 34) #[] #[], .bool true] w fun e w' => e = .returned (.int .i64 (-1)) ∧ w' = w := by
  go_enter Tryd.func41, Tryd.ntmps41
  go_wp2
  refine wp_loop_rounds 1 ?_
  rw [rounds_succ]
  go_wp2
  go_ret
  exact ⟨rfl, rfl⟩

theorem index_some (B off c : Nat) (t : List UInt8) (w : World) (hl : t.length ≤ 1048576) (hcap : t.length ≤ c) (hB : B < w.heap.size) (hc : BytesOff w B off t) (hT : Lib.Utf8Tabs 3 4 w) :
    Calls Tryd.prog 36 #[.slice (some ⟨B, off, none⟩) t.length c, .func (.func 34) #[] #[]] w fun e w' => e = .returned (.int .i64 (idxOf t)) ∧ Below w.heap.size w w' := by
  have H := idx_some B off c t w hl hcap hB hc hT
  have H' : Hid (Calls Tryd.prog 41 #[.slice (some ⟨B, off, none⟩) t.length c, .func (.func 34) #[] #[], .bool true] w fun e w' => e = .returned (.int .i64 (idxOf t)) ∧ Below w.heap.size w w') := H
  clear H
  go_enter Tryd.func36, Tryd.ntmps36
  go_wp2_with fail
  refine H'.out.mono ?_
  rintro e w' ⟨rfl, hb⟩
  go_wp2
  go_ret
  exact ⟨rfl, hb⟩
theorem index_none (p : Option Addr) (c : Nat) (w : World) :
    Calls Tryd.prog 36 #[.slice p 0 c, .func (.func 34) #[] #[]] w fun e w' => e = .returned (.int .i64 (-1)) ∧ w' = w := by
  have H' : Hid (Calls Tryd.prog 41 #[.slice p 0 c, .func (.func 34) #[] #[], .bool true] w fun e w' => e = .returned (.int .i64 (-1)) ∧ w' = w) := idx_none p c w
  go_enter Tryd.func36, Tryd.ntmps36
  go_wp2_with fail
  refine H'.out.mono ?_
  rintro e w' ⟨rfl, hw⟩
  have hw' := hw.symm
  subst hw'
  go_wp2
  go_ret
  exact ⟨rfl, rfl⟩
end Go.Proofs.Qxb6608766aDoor
