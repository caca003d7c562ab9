/-
  WALK: FnMalformedReadsOnlyTheNextBytes: at the text's end; at every input.
-/
import Derived.Test.Qxb6608766aDoorLawB
namespace Go.Proofs.Qxb6608766aDoor
open Go.RowKit

set_option maxHeartbeats 1600000 in
set_option maxRecDepth 100000 in
theorem lawB_end (T : Lib.PrintTabs) (a : Option Addr) (c : Nat) (t : List UInt8) (s : ByteArray) (w : World) (u : TypeId) (v : Value) (hl : t.length ≤ 524288) (hs : s.size ≤ 524288) (hr : Row w a t) (h0 : w.cell? ⟨0, 0, none⟩ = some (.iface u v)) (hT : Tabs T w)
    (HB : Hid (Calls Tryd.prog 18 #[.slice a t.length c, .int .i64 t.length, .string s] w fun e w' => SaysBool e ∧ w' = w)) :
    Calls Tryd.prog 6 #[.slice a t.length c, .int .i64 t.length, .string s] w fun e w' => e = .returned (.bool true) ∧ Below w.heap.size w w' := by
  have HR : Hid (Row w a t) := hr
  have HT : Hid (Tabs T w) := hT
  have H0 : Hid (w.cell? ⟨0, 0, none⟩ = some (.iface u v)) := h0
  have hhd : Hid (([] : List UInt8) = (t.drop t.length).take 33) := by
    show ([] : List UInt8) = (t.drop t.length).take 33
    simp
  clear hr hT h0
  go_enter Tryd.func6, Tryd.ntmps6
  go_wp2_with fail
  refine HB.out.mono ?_
  rintro e w' ⟨⟨q, rfl⟩, hw⟩
  have hw' := hw.symm
  subst hw'
  clear hw
  cases q
  · go_wp2
    go_ret
    exact ⟨rfl, Below.refl _ _⟩
  · go_wp2_with fail
    refine (clone_any a c t w (by omega) HR.out).mono ?_
    rintro e w1 ⟨⟨a1, cap1, rfl, hbuf1⟩, hb1⟩
    have HBUF1 : Hid (Buf w1 a1 cap1 t) := hbuf1
    clear hbuf1
    go_wp2_with fail
    refine (clone_any a1 cap1 t w1 (by omega) (row_of_buf HBUF1.out)).mono ?_
    rintro e w2 ⟨⟨a2, cap2, rfl, hbuf2⟩, hb2⟩
    have hb02 := below_of hb1 hb2
    obtain ⟨p, c2, hse, hse'⟩ : ∃ p c, (∀ w, (Instr.slice 22 (.slice a2 t.length cap2) (some (.int .i64 t.length)) (some (.int .i64 t.length)) none).run Tryd.prog w = .ok (.slice p 0 c) w) ∧
        ∀ w, (Instr.slice 22 (.slice a2 t.length cap2) (some (.int .i64 t.length)) none none).run Tryd.prog w = .ok (.slice p 0 c) w :=
      ⟨_, _, fun w => slice_end a2 t.length cap2 hbuf2.1 w, fun w => slice_end' a2 t.length cap2 w⟩
    clear hbuf2
    have hend : (t.length : Int) < (t.length : Int) + 33 := by omega
    go_wp2_with fail
    refine (clone_at p 0 c2 [] w2 rfl (by simp) (fun hp => by simp at hp)).mono ?_
    rintro e w3 ⟨⟨a3, cap3, rfl, hbuf3⟩, hb3⟩
    have HBUF3 : Hid (Buf w3 a3 cap3 []) := hbuf3
    clear hbuf3
    go_wp2_with fail
    refine (past_short p 0 c2 w3 (by omega)).mono ?_
    rintro e w3' ⟨rfl, hw⟩
    have hw' := hw.symm
    subst hw'
    clear hw hse hse'
    have hb13 := below_of hb2 hb3
    have hb03 := below_of hb1 hb13
    have HIN1 : Hid (Calls Tryd.prog 9 #[.slice a1 t.length cap1, .int .i64 t.length] w3 fun e w' => e = .returned (.pointer (some ⟨w3.heap.size, 0, none⟩)) ∧ InAt w' w3.heap.size a1 t.length cap1 t.length ∧ Below w3.heap.size w3 w') := newInput a1 t.length cap1 t.length u v w3 (eof_below H0.out hb03)
    go_wp2_with fail
    refine HIN1.out.mono ?_
    rintro e w4 ⟨rfl, hin4, hb4⟩
    have hb14 := below_of hb13 hb4
    have hb04 := below_of hb1 hb14
    have HM1 : Hid (Calls Tryd.prog 16 #[.pointer (some ⟨w3.heap.size, 0, none⟩), .string s] w4 fun e w' => e = .returned (.string (exOf T t t.length ++ colon ++ s)) ∧ Below w4.heap.size w4 w') := message T a1 cap1 t.length t s w1 w4 w3.heap.size hin4 (by omega) (by omega) HBUF1.out (HT.out.below hb1) (by omega) hb14
    clear hin4 HIN1
    generalize hX : exOf T t t.length = X at HM1
    have HX : Hid (exOf T t t.length = X) := hX
    clear hX
    go_wp2_with fail
    refine HM1.out.mono ?_
    rintro e w5 ⟨rfl, hb5⟩
    have hb05 := below_of hb04 hb5
    have hb35 := below_of hb4 hb5
    have HIN2 : Hid (Calls Tryd.prog 9 #[.slice a3 0 cap3, .int .i64 0] w5 fun e w' => e = .returned (.pointer (some ⟨w5.heap.size, 0, none⟩)) ∧ InAt w' w5.heap.size a3 0 cap3 0 ∧ Below w5.heap.size w5 w') := newInput a3 0 cap3 0 u v w5 (eof_below H0.out hb05)
    clear HM1
    go_wp2_with fail
    refine HIN2.out.mono ?_
    rintro e w6 ⟨rfl, hin6, hb6⟩
    have hb36 := below_of hb35 hb6
    have hb06 := below_of hb05 hb6
    have HM2 : Hid (Calls Tryd.prog 16 #[.pointer (some ⟨w5.heap.size, 0, none⟩), .string s] w6 fun e w' => e = .returned (.string (X ++ colon ++ s)) ∧ Below w6.heap.size w6 w') := by
      have hm := message T a3 cap3 0 [] s w3 w6 w5.heap.size hin6 (by simp) (by simp) HBUF3.out (HT.out.below hb03) (by omega) hb36
      rw [ex_head hhd.out, HX.out] at hm
      exact hm
    clear hin6 HIN2
    go_wp2_with fail
    refine HM2.out.mono ?_
    rintro e w7 ⟨rfl, hb7⟩
    have hb07 := below_of hb06 hb7
    clear HM2 hb1 hb2 hb3 hb4 hb5 hb6 hb7 hb02 hb13 hb03 hb14 hb04 hb05 hb35 hb36 hb06
    have hcol : colon.size = 2 := rfl
    have hx400 : X.size ≤ 400 := by rw [← HX.out]; exact exOf_size T t t.length
    have hx2 : 2 ≤ X.size := by rw [← HX.out]; exact exOf_two T t t.length
    have hsub : X.size + 2 + s.size - (2 + s.size) = X.size := by omega
    have htl := tail_eq X s
    have hhe := head_eq X s
    have hz0 : ∀ h, (X ++ colon)[0]'h = 34 := by rw [← HX.out]; exact exOf_head T t t.length colon
    have hla : ∀ h, X[X.size - 1]'h = 34 := by rw [← HX.out]; exact exOf_last T t t.length (by rw [List.drop_length]; rfl)
    go_wp2
    go_ret
    exact ⟨rfl, hb07⟩

set_option maxHeartbeats 800000 in
set_option maxRecDepth 100000 in
theorem lawB_out (a : Option Addr) (n c : Nat) (off : Int) (s : ByteArray) (w : World) (hn : n ≤ maxLen) (hs : s.size ≤ maxLen) (h : (524288 : Int) < (n : Int) ∨ (524288 : Int) < (s.size : Int) ∨ off < 0 ∨ (n : Int) < off) :
    Calls Tryd.prog 6 #[.slice a n c, .int .i64 off, .string s] w fun e w' => e = .returned (.bool true) ∧ Below w.heap.size w w' := by
  have HB : Hid (Calls Tryd.prog 18 #[.slice a n c, .int .i64 off, .string s] w fun e w' => SaysBool e ∧ w' = w) := bytes2_any a n c off s w hn hs
  unfold maxLen at hn hs
  have hcase : (524288 : Int) < (n : Int) ∨ ((n : Int) ≤ 524288 ∧ (524288 : Int) < (s.size : Int)) ∨ ((n : Int) ≤ 524288 ∧ (s.size : Int) ≤ 524288 ∧ off < 0) ∨ ((n : Int) ≤ 524288 ∧ (s.size : Int) ≤ 524288 ∧ 0 ≤ off ∧ (n : Int) < off) := by omega
  clear h
  rcases hcase with h | ⟨h1, h⟩ | ⟨h1, h2, h⟩ | ⟨h1, h2, h3, h⟩
  all_goals
    go_enter Tryd.func6, Tryd.ntmps6
    go_wp2_with fail
    refine HB.out.mono ?_
    rintro e w' ⟨⟨q, rfl⟩, hw⟩
    have hw' := hw.symm
    subst hw'
    clear hw
    cases q
    all_goals
      go_wp2
      go_ret
      exact ⟨rfl, Below.refl _ _⟩

theorem lawB_any (T : Lib.PrintTabs) (a : Option Addr) (c : Nat) (t : List UInt8) (off : Int) (s : ByteArray) (w : World) (u : TypeId) (v : Value) (hl : t.length ≤ maxLen) (hs : s.size ≤ maxLen) (hr : Row w a t) (h0 : w.cell? ⟨0, 0, none⟩ = some (.iface u v)) (hT : Tabs T w) :
    Calls Tryd.prog 6 #[.slice a t.length c, .int .i64 off, .string s] w fun e w' => e = .returned (.bool true) ∧ Below w.heap.size w w' := by
  by_cases h : (524288 : Int) < (t.length : Int) ∨ (524288 : Int) < (s.size : Int) ∨ off < 0 ∨ (t.length : Int) < off
  · exact lawB_out a t.length c off s w hl hs h
  · obtain ⟨o, rfl⟩ : ∃ o : Nat, off = (o : Int) := ⟨off.toNat, by omega⟩
    have HB := bytes2_any a t.length c (o : Int) s w hl hs
    by_cases ho : o < t.length
    · exact lawB_in T a c o t s w u v (by omega) (by omega) ho hr h0 hT HB
    · have e : o = t.length := by omega
      subst e
      exact lawB_end T a c t s w u v (by omega) (by omega) hr h0 hT HB
end Go.Proofs.Qxb6608766aDoor
