/-
  WALK: FnMalformedReasonCutAndAsciiExcerpt.
-/
import Derived.Test.Qxb6608766aDoorAsciiWalk
import Derived.LoopN
namespace Go.Proofs.Qxb6608766aDoor
open Go.RowKit

theorem ex_quotes (T : Lib.PrintTabs) : (⟨#[34, 34]⟩ : ByteArray) = exS T [] := by
  rw [exS_empty, QS_asc T [] (fun b hb => by cases hb)]
  rfl

set_option maxHeartbeats 800000 in
set_option maxRecDepth 100000 in
theorem ascii_empty (T : Lib.PrintTabs) (p : Option Addr) (c : Nat) (w : World) :
    Calls Tryd.prog 17 #[.slice p 0 c] w fun e w' => SaysEx (exS T []) e ∧ Below w.heap.size w w' := by
  obtain ⟨i0, hi, hz0, hz1, hz2⟩ := info_parts infoByte
  have HX : Hid ((⟨#[34, 34]⟩ : ByteArray) = exS T []) := ex_quotes T
  generalize exS T [] = X at HX ⊢
  go_enter Tryd.func17, Tryd.ntmps17
  go_wp2
  refine wp_loop_rounds 1 ?_
  rw [rounds_succ]
  go_wp2
  refine wp_loop_rounds 1 ?_
  rw [rounds_succ]
  have hown : Lib.OwnBuf w.heap.size 5 (.slice (some ⟨w.heap.size, 0, none⟩) 1 1) 1 [.int .u8 34] w (w.alloc (.cells #[.int .u8 34] 5)) :=
    ⟨⟨rfl, .inr ⟨w.heap.size, 1, #[.int .u8 34], (0, 0), rfl, Nat.le_refl _, heap_alloc_new w _, by simp, by simp, by decide, rfl, rfl⟩⟩, (Below.refl _ _).alloc (Nat.le_refl _) _, ((Below.refl 0 w).alloc (Nat.zero_le _) _).size⟩
  generalize w.alloc (.cells #[.int .u8 34] 5) = w1 at hown ⊢
  go_wp2_with (at_builtin; refine wpList_append_cells rfl _ _ 22 rfl w.heap.size 5 i0 Tryd.underlying22 hi hz0 hz1 hz2 (.slice (some ⟨w.heap.size, 0, none⟩) 1 1) 1 [.int .u8 34] rfl w w1 _ (by decide) hown rfl (by simp) ?_; intro _ _ hown2)
  have hcv := cells_own (ys := [34, 34]) (n := _) (by simpa [Lib.intCells] using hown2) (by omega) _ rfl
  rw [hcv]
  go_wp2
  go_ret2
  exact ⟨⟨_, _, rfl, fun _ => HX.out⟩, hown2.2.1⟩

/-- The slice of the copy at off, and what asciiExcerpt says of it in every later world. -/
def AtOff (T : Lib.PrintTabs) (t : List UInt8) (off : Nat) (a2 : Option Addr) (cap2 : Nat) (w2 : World) (p : Option Addr) (m c2 : Nat) : Prop :=
  (∀ w, (Instr.slice 22 (.slice a2 t.length cap2) (some (.int .i64 off)) none none).run Tryd.prog w = .ok (.slice p m c2) w) ∧
  ∀ w', Below w2.heap.size w2 w' → Calls Tryd.prog 17 #[.slice p m c2] w' fun e w'' => SaysEx (exOf T t off) e ∧ Below w'.heap.size w' w''
theorem atOff (T : Lib.PrintTabs) (t : List UInt8) (off : Nat) (a2 : Option Addr) (cap2 : Nat) (w2 : World) (hl : t.length ≤ 1048576) (hoff : off ≤ t.length) (hb : Buf w2 a2 cap2 t) : ∃ p m c2, AtOff T t off a2 cap2 w2 p m c2 := by
  obtain ⟨h1, h2, h3, h4⟩ := hb
  by_cases hlt : off < t.length
  · obtain ⟨B, rfl, hB, hby⟩ := h4 (by omega)
    refine ⟨some ⟨B, off, none⟩, (t.drop off).length, cap2 - off, fun w => ?_, fun w' hbel => ?_⟩
    · rw [run_slice_l (P := Tryd.prog) (w := w) 22 (some ⟨B, 0, none⟩) t.length cap2 elem22 .i64 (off : Int) (by omega) (by omega), size22]
      have hne : ¬ cap2 = off := by omega
      simp [Result.andThen, sliced, hne, add_at]
    · have hby' : BytesOff w2 B off (t.drop off) := fun j hj => by
        rw [List.length_drop] at hj
        rw [List.getElem_drop]
        exact hby (off + j) (by omega)
      exact ascii_some T B off (cap2 - off) (t.drop off) w' (by rw [List.length_drop]; omega) (Nat.lt_of_lt_of_le hB hbel.size) (hby'.below hB hbel)
  · have e : off = t.length := by omega
    subst e
    refine ⟨_, 0, _, fun w => slice_end' a2 t.length cap2 w, fun w' _ => ?_⟩
    have ex : exOf T t t.length = exS T [] := by unfold exOf; rw [List.drop_length, List.take_nil]
    rw [ex]
    exact ascii_empty T _ _ w'

set_option maxHeartbeats 1600000 in
set_option maxRecDepth 100000 in
theorem lawA_in (T : Lib.PrintTabs) (a : Option Addr) (c off : Nat) (t : List UInt8) (sa sb : ByteArray) (w : World) (u : TypeId) (v : Value) (hl : t.length ≤ 262144) (hsa : sa.size ≤ 262144) (hsb : sb.size ≤ 262144) (hoff : off ≤ t.length) (hr : Row w a t) (h0 : w.cell? ⟨0, 0, none⟩ = some (.iface u v)) (hT : Tabs T w)
    (HB : Hid (Calls Tryd.prog 15 #[.slice a t.length c, .int .i64 off, .string sa, .string sb] w fun e w' => SaysBool e ∧ w' = w)) :
    Calls Tryd.prog 5 #[.slice a t.length c, .int .i64 off, .string sa, .string sb] w fun e w' => e = .returned (.bool true) ∧ Below w.heap.size w w' := by
  have HR : Hid (Row w a t) := hr
  have HT : Hid (Tabs T w) := hT
  have H0 : Hid (w.cell? ⟨0, 0, none⟩ = some (.iface u v)) := h0
  clear hr hT h0
  go_enter Tryd.func5, Tryd.ntmps5
  go_wp2_with fail
  refine HB.out.mono ?_
  rintro e w' ⟨⟨q, rfl⟩, hw⟩
  have hw' := hw.symm
  subst hw'
  clear hw
  cases q
  · go_wp2
    go_ret
    exact ⟨rfl, Below.refl _ _⟩
  · go_wp2_with fail
    refine (clone_any a c t w (by omega) HR.out).mono ?_
    rintro e w1 ⟨⟨a1, cap1, rfl, hbuf1⟩, hb1⟩
    have HBUF1 : Hid (Buf w1 a1 cap1 t) := hbuf1
    clear hbuf1
    go_wp2_with fail
    refine (clone_any a1 cap1 t w1 (by omega) (row_of_buf HBUF1.out)).mono ?_
    rintro e w2 ⟨⟨a2, cap2, rfl, hbuf2⟩, hb2⟩
    have hb02 := below_of hb1 hb2
    obtain ⟨p, m, c2, hsl, has⟩ := atOff T t off a2 cap2 w2 (by omega) hoff hbuf2
    have HAS : Hid (∀ w', Below w2.heap.size w2 w' → Calls Tryd.prog 17 #[.slice p m c2] w' fun e w'' => SaysEx (exOf T t off) e ∧ Below w'.heap.size w' w'') := has
    have HSL : Hid (∀ w, (Instr.slice 22 (.slice a2 t.length cap2) (some (.int .i64 off)) none none).run Tryd.prog w = .ok (.slice p m c2) w) := hsl
    clear hbuf2 has hsl
    have HIN1 : Hid (Calls Tryd.prog 9 #[.slice a1 t.length cap1, .int .i64 off] w2 fun e w' => e = .returned (.pointer (some ⟨w2.heap.size, 0, none⟩)) ∧ InAt w' w2.heap.size a1 t.length cap1 off ∧ Below w2.heap.size w2 w') := newInput a1 t.length cap1 off u v w2 (eof_below H0.out hb02)
    go_wp2_with fail
    refine HIN1.out.mono ?_
    rintro e w3 ⟨rfl, hin3, hb3⟩
    have hb13 := below_of hb2 hb3
    have hb03 := below_of hb1 hb13
    obtain ⟨S, hS⟩ : ∃ S, S = sa ++ sb := ⟨_, rfl⟩
    have hSs : S.size = sa.size + sb.size := by rw [hS, ByteArray.size_append]
    have HSS : Hid (S = sa ++ sb) := hS
    have hS' : sa ++ sb = S := hS.symm
    clear hS
    have HM1 : Hid (Calls Tryd.prog 16 #[.pointer (some ⟨w2.heap.size, 0, none⟩), .string S] w3 fun e w' => e = .returned (.string (exOf T t off ++ colon ++ S)) ∧ Below w3.heap.size w3 w') := message T a1 cap1 off t S w1 w3 w2.heap.size hin3 (by omega) (by omega) HBUF1.out (HT.out.below hb1) (by omega) hb13
    clear hin3 HIN1
    generalize hX : exOf T t off = X at HM1 HAS
    have HX : Hid (exOf T t off = X) := hX
    clear hX
    have HSZ : Hid (S.size = sa.size + sb.size) := hSs
    clear hSs
    go_wp2_with fail
    refine HM1.out.mono ?_
    rintro e w4 ⟨rfl, hb4⟩
    have hb04 := below_of hb03 hb4
    have hb14 := below_of hb13 hb4
    have HIN2 : Hid (Calls Tryd.prog 9 #[.slice a1 t.length cap1, .int .i64 off] w4 fun e w' => e = .returned (.pointer (some ⟨w4.heap.size, 0, none⟩)) ∧ InAt w' w4.heap.size a1 t.length cap1 off ∧ Below w4.heap.size w4 w') := newInput a1 t.length cap1 off u v w4 (eof_below H0.out hb04)
    clear HM1
    go_wp2_with fail
    refine HIN2.out.mono ?_
    rintro e w5 ⟨rfl, hin5, hb5⟩
    have hb15 := below_of hb14 hb5
    have hb05 := below_of hb04 hb5
    have HM2 : Hid (Calls Tryd.prog 16 #[.pointer (some ⟨w4.heap.size, 0, none⟩), .string sa] w5 fun e w' => e = .returned (.string (X ++ colon ++ sa)) ∧ Below w5.heap.size w5 w') := by
      have hm := message T a1 cap1 off t sa w1 w5 w4.heap.size hin5 (by omega) (by omega) HBUF1.out (HT.out.below hb1) (by omega) hb15
      rw [HX.out] at hm
      exact hm
    clear hin5 HIN2
    go_wp2_with fail
    refine HM2.out.mono ?_
    rintro e w6 ⟨rfl, hb6⟩
    have hb06 := below_of hb05 hb6
    have hb26 : Below w2.heap.size w2 w6 := below_of (below_of (below_of hb3 hb4) hb5) hb6
    have HA6 := HAS.out w6 hb26
    have HA7 : Hid (Calls Tryd.prog 17 #[.slice p m c2] w6 fun e w'' => SaysEx X e ∧ Below w6.heap.size w6 w'') := HA6
    have hsl := HSL.out
    clear HM2 hb1 hb2 hb3 hb4 hb5 hb6 hb02 hb13 hb03 hb14 hb04 hb05 hb15 hb26 HAS HA6 HSL
    have hcol : colon.size = 2 := rfl
    have hx400 : X.size ≤ 400 := by rw [← HX.out]; exact exOf_size T t off
    have hx2 : 2 ≤ X.size := by rw [← HX.out]; exact exOf_two T t off
    have hsub : X.size + 2 + S.size - (2 + S.size) = X.size := by omega
    have hSb : S.size ≤ 524288 := by have := HSZ.out; omega
    have htl := tail_eq X S
    have hP : X ++ colon ++ sa ++ sb = X ++ colon ++ S := by rw [HSS.out, ByteArray.append_assoc]
    have hT1 : (⟨#[58, 32]⟩ : ByteArray) ++ sa ++ sb = ⟨#[58, 32]⟩ ++ S := by rw [HSS.out, ByteArray.append_assoc]
    have hz0 : ∀ h, (X ++ colon)[0]'h = 34 := by rw [← HX.out]; exact exOf_head T t off colon
    have hW : X ++ ((⟨#[58, 32]⟩ : ByteArray) ++ S) = X ++ colon ++ S := by rw [ByteArray.append_assoc]; rfl
    go_wp2_with fail
    refine HA7.out.mono ?_
    rintro e w7 ⟨⟨s', q', rfl, hq'⟩, hb7⟩
    have hb07 := below_of hb06 hb7
    clear hb06 hb7 HA7
    cases q'
    · go_wp2
      go_ret
      exact ⟨rfl, hb07⟩
    · have hq2 := hq' rfl
      subst hq2
      clear hq'
      go_wp2
      go_ret
      exact ⟨rfl, hb07⟩

set_option maxHeartbeats 800000 in
set_option maxRecDepth 100000 in
theorem lawA_out (a : Option Addr) (n c : Nat) (off : Int) (sa sb : ByteArray) (w : World) (hn : n ≤ maxLen) (hsa : sa.size ≤ maxLen) (hsb : sb.size ≤ maxLen) (h : (262144 : Int) < (n : Int) ∨ (262144 : Int) < (sa.size : Int) ∨ (262144 : Int) < (sb.size : Int) ∨ off < 0 ∨ (n : Int) < off) :
    Calls Tryd.prog 5 #[.slice a n c, .int .i64 off, .string sa, .string sb] w fun e w' => e = .returned (.bool true) ∧ Below w.heap.size w w' := by
  have HB : Hid (Calls Tryd.prog 15 #[.slice a n c, .int .i64 off, .string sa, .string sb] w fun e w' => SaysBool e ∧ w' = w) := bytes3_any a n c off sa sb w hn hsa hsb
  unfold maxLen at hn hsa hsb
  have hcase : (262144 : Int) < (n : Int) ∨ ((n : Int) ≤ 262144 ∧ (262144 : Int) < (sa.size : Int)) ∨ ((n : Int) ≤ 262144 ∧ (sa.size : Int) ≤ 262144 ∧ (262144 : Int) < (sb.size : Int)) ∨ ((n : Int) ≤ 262144 ∧ (sa.size : Int) ≤ 262144 ∧ (sb.size : Int) ≤ 262144 ∧ off < 0) ∨ ((n : Int) ≤ 262144 ∧ (sa.size : Int) ≤ 262144 ∧ (sb.size : Int) ≤ 262144 ∧ 0 ≤ off ∧ (n : Int) < off) := by omega
  clear h
  rcases hcase with h | ⟨h1, h⟩ | ⟨h1, h2, h⟩ | ⟨h1, h2, h3, h⟩ | ⟨h1, h2, h3, h4, h⟩
  all_goals
    go_enter Tryd.func5, Tryd.ntmps5
    go_wp2_with fail
    refine HB.out.mono ?_
    rintro e w' ⟨⟨q, rfl⟩, hw⟩
    have hw' := hw.symm
    subst hw'
    clear hw
    cases q
    all_goals
      go_wp2
      go_ret
      exact ⟨rfl, Below.refl _ _⟩

theorem lawA_any (T : Lib.PrintTabs) (a : Option Addr) (c : Nat) (t : List UInt8) (off : Int) (sa sb : ByteArray) (w : World) (u : TypeId) (v : Value) (hl : t.length ≤ maxLen) (hsa : sa.size ≤ maxLen) (hsb : sb.size ≤ maxLen) (hr : Row w a t) (h0 : w.cell? ⟨0, 0, none⟩ = some (.iface u v)) (hT : Tabs T w) :
    Calls Tryd.prog 5 #[.slice a t.length c, .int .i64 off, .string sa, .string sb] w fun e w' => e = .returned (.bool true) ∧ Below w.heap.size w w' := by
  by_cases h : (262144 : Int) < (t.length : Int) ∨ (262144 : Int) < (sa.size : Int) ∨ (262144 : Int) < (sb.size : Int) ∨ off < 0 ∨ (t.length : Int) < off
  · exact lawA_out a t.length c off sa sb w hl hsa hsb h
  · obtain ⟨o, rfl⟩ : ∃ o : Nat, off = (o : Int) := ⟨off.toNat, by omega⟩
    exact lawA_in T a c o t sa sb w u v (by omega) (by omega) (by omega) (by omega) hr h0 hT (bytes3_any a t.length c (o : Int) sa sb w hl hsa hsb)
end Go.Proofs.Qxb6608766aDoor
