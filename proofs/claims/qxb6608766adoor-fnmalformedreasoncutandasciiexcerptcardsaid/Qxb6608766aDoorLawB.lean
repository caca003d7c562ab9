/-
  WALK: FnMalformedReadsOnlyTheNextBytes.
-/
import Derived.Test.Qxb6608766aDoorText
namespace Go.Proofs.Qxb6608766aDoor
open Go.RowKit

/-- A slice of bytes that came in, or that the law has made. -/
def Row (w : World) (a : Option Addr) (t : List UInt8) : Prop := 0 < t.length → ∃ b off, a = some ⟨b, off, none⟩ ∧ b < w.heap.size ∧ BytesOff w b off t
/-- The call hands back a buffer of its own with these bytes. -/
def SaysBuf (t : List UInt8) (w' : World) (e : Ending) : Prop := ∃ a' cap', e = .returned (.slice a' t.length cap') ∧ Buf w' a' cap' t

theorem clone_any (a : Option Addr) (c : Nat) (t : List UInt8) (w : World) (hl : t.length ≤ 1048576) (h : Row w a t) :
    Calls Tryd.prog 8 #[.slice a t.length c] w fun e w' => SaysBuf t w' e ∧ Below w.heap.size w w' := by
  by_cases h0 : t.length = 0
  · have ht : t = [] := List.eq_nil_of_length_eq_zero h0
    subst ht
    rcases a with _ | ad
    · refine (clone_nil 0 c w).mono ?_
      rintro e w' ⟨he, hw⟩
      subst hw
      exact ⟨⟨none, 0, he, by simp, by omega, fun _ => rfl, fun hp => by simp at hp⟩, Below.refl _ _⟩
    · refine (clone_empty ad c w).mono ?_
      rintro e w' ⟨he, hb⟩
      exact ⟨⟨some ⟨w.heap.size, 0, none⟩, 0, he, by simp, by omega, (fun h => by cases h), fun hp => by simp at hp⟩, hb⟩
  · obtain ⟨b, off, rfl, hb, hc⟩ := h (by omega)
    refine (clone_some b off c t w hl (by omega) hb hc).mono ?_
    rintro e w' ⟨he, hby, hbel⟩
    refine ⟨⟨some ⟨w.heap.size, 0, none⟩, t.length, he, Nat.le_refl _, by omega, (fun h => by cases h), fun _ => ⟨w.heap.size, rfl, ?_, hby⟩⟩, hbel⟩
    exact World.block_lt_of_cell? w' _ (hby 0 (by omega))

/-- Cut at its very end, a slice is empty. -/
theorem elem22 : Tryd.prog.underlying 22 = some (.slice (Tryd.prog.elem 22)) := by kernel_rfl
theorem size22 (w : World) : (sizeOf (Tryd.prog.elem 22)).run Tryd.prog w = .ok 1 w := by kernel_rfl
theorem slice_end (a : Option Addr) (n cap : Nat) (hc : n ≤ cap) (w : World) :
    (Instr.slice 22 (.slice a n cap) (some (.int .i64 n)) (some (.int .i64 n)) none).run Tryd.prog w = .ok (.slice (if cap = n then a else a.map (·.add (n * 1))) 0 (cap - n)) w := by
  rw [run_slice_lh (P := Tryd.prog) (w := w) 22 a n cap elem22 .i64 .i64 (n : Int) (n : Int) (by omega) (by omega) (by omega), size22]
  simp [Result.andThen, sliced]
theorem slice_end' (a : Option Addr) (n cap : Nat) (w : World) :
    (Instr.slice 22 (.slice a n cap) (some (.int .i64 n)) none none).run Tryd.prog w = .ok (.slice (if cap = n then a else a.map (·.add (n * 1))) 0 (cap - n)) w := by
  rw [run_slice_l (P := Tryd.prog) (w := w) 22 a n cap elem22 .i64 (n : Int) (by omega) (by omega), size22]
  simp [Result.andThen, sliced]

theorem row_of_buf {w : World} {a : Option Addr} {cap : Nat} {t : List UInt8} (h : Buf w a cap t) : Row w a t := fun hp => by
  obtain ⟨B, ha, hB, hc⟩ := h.2.2.2 hp
  exact ⟨B, 0, ha, hB, fun j hj => by rw [Nat.zero_add]; exact hc j hj⟩
theorem below_of {W w1 w2 : World} (h : Below W.heap.size W w1) (hb : Below w1.heap.size w1 w2) : Below W.heap.size W w2 := h.trans (hb.mono h.size)
theorem eof_below {w w' : World} {u : TypeId} {v : Value} (h : w.cell? ⟨0, 0, none⟩ = some (.iface u v)) (hb : Below w.heap.size w w') : w'.cell? ⟨0, 0, none⟩ = some (.iface u v) :=
  (hb.cell (p := ⟨0, 0, none⟩) (World.block_lt_of_cell? w _ h)).trans h
/-- ZZmalformed(ZZnewInput(buf, off), s): the message, in every later world. -/
theorem message (T : Lib.PrintTabs) (a : Option Addr) (cap off : Nat) (l : List UInt8) (s : ByteArray) (w w1 : World) (ib : Nat) (hin : InAt w1 ib a l.length cap off) (hn : l.length ≤ 1048576) (hoff : off ≤ l.length) (hb : Buf w a cap l) (hT : Tabs T w) (hs : s.size ≤ 4194304) (hbel : Below w.heap.size w w1) :
    Calls Tryd.prog 16 #[.pointer (some ⟨ib, 0, none⟩), .string s] w1 fun e w' => e = .returned (.string (exOf T l off ++ colon ++ s)) ∧ Below w1.heap.size w1 w' :=
  zzmalformed T ib a cap off l s w1 hin hn hoff (hb.below hbel) (hT.below hbel) hs

theorem clone_at (a : Option Addr) (n c : Nat) (t : List UInt8) (w : World) (hn : n = t.length) (hl : t.length ≤ 1048576) (h : Row w a t) :
    Calls Tryd.prog 8 #[.slice a n c] w fun e w' => SaysBuf t w' e ∧ Below w.heap.size w w' := by
  subst hn; exact clone_any a c t w hl h
theorem past_at (b off c : Nat) (t : List UInt8) (n : Nat) (pt : Bool) (w : World) (hn : n = t.length) (hl : t.length ≤ 1048576) (hc : BytesOff w b off t) (hpt : pt = past t) :
    Calls Tryd.prog 19 #[.slice (some ⟨b, off, none⟩) n c] w fun e w' => e = .returned (.bool pt) ∧ w' = w := by
  subst hn hpt
  rcases Nat.lt_or_ge t.length 33 with h | h
  · have e : past t = false := decide_eq_false (by omega)
    rw [e]
    exact past_short _ _ c w (by omega)
  · exact past_long b off c t w hl (by omega) hc

theorem ex_head {T : Lib.PrintTabs} {t hd : List UInt8} {off : Nat} (h : hd = (t.drop off).take 33) : exOf T hd 0 = exOf T t off := by
  unfold exOf
  rw [h, List.drop_zero, List.take_take]
  rfl

set_option maxHeartbeats 1600000 in
set_option maxRecDepth 100000 in
theorem lawB_in (T : Lib.PrintTabs) (a : Option Addr) (c off : Nat) (t : List UInt8) (s : ByteArray) (w : World) (u : TypeId) (v : Value) (hl : t.length ≤ 524288) (hs : s.size ≤ 524288) (hoff : off < t.length) (hr : Row w a t) (h0 : w.cell? ⟨0, 0, none⟩ = some (.iface u v)) (hT : Tabs T w)
    (HB : Hid (Calls Tryd.prog 18 #[.slice a t.length c, .int .i64 off, .string s] w fun e w' => SaysBool e ∧ w' = w)) :
    Calls Tryd.prog 6 #[.slice a t.length c, .int .i64 off, .string s] w fun e w' => e = .returned (.bool true) ∧ Below w.heap.size w w' := by
  have HR : Hid (Row w a t) := hr
  have HT : Hid (Tabs T w) := hT
  have H0 : Hid (w.cell? ⟨0, 0, none⟩ = some (.iface u v)) := h0
  clear hr hT h0
  go_enter Tryd.func6, Tryd.ntmps6
  go_wp2_with fail
  refine HB.out.mono ?_
  rintro e w' ⟨⟨q, rfl⟩, hw⟩
  have hw' := hw.symm
  subst hw'
  clear hw
  cases q
  · go_wp2
    go_ret
    exact ⟨rfl, Below.refl _ _⟩
  · go_wp2_with fail
    refine (clone_any a c t w (by omega) HR.out).mono ?_
    rintro e w1 ⟨⟨a1, cap1, rfl, hbuf1⟩, hb1⟩
    have HBUF1 : Hid (Buf w1 a1 cap1 t) := hbuf1
    clear hbuf1
    go_wp2_with fail
    refine (clone_any a1 cap1 t w1 (by omega) (row_of_buf HBUF1.out)).mono ?_
    rintro e w2 ⟨⟨a2, cap2, rfl, hbuf2⟩, hb2⟩
    have hb02 := below_of hb1 hb2
    obtain ⟨hcap2, hcap2', _, hB2⟩ := hbuf2
    obtain ⟨B2, rfl, hB2lt, hby2⟩ := hB2 (by omega)
    have HBY2 : Hid (BytesOff w2 B2 off (t.drop off)) := by
      intro j hj
      rw [List.length_drop] at hj
      rw [List.getElem_drop]
      exact hby2 (off + j) (by omega)
    clear hB2 hby2
    obtain ⟨hd, hhd⟩ : ∃ hd : List UInt8, hd = (t.drop off).take 33 := ⟨_, rfl⟩
    have HHL : Hid (hd.length = min 33 (t.length - off)) := by
      show hd.length = min 33 (t.length - off)
      rw [hhd, List.length_take, List.length_drop]
    have hh33 : hd.length ≤ 33 := by have := HHL.out; omega
    have HHD : Hid (hd = (t.drop off).take 33) := hhd
    have hrow : Hid (Row w2 (some ⟨B2, off, none⟩) hd) := fun _ => ⟨B2, off, rfl, hB2lt, by rw [hhd]; exact HBY2.out.take 33⟩
    obtain ⟨pt, hpt⟩ : ∃ pt : Bool, pt = past (t.drop off) := ⟨_, rfl⟩
    have HPT : Hid (pt = past (t.drop off)) := hpt
    clear hhd hpt
    have HEND : Hid ((t.length : Int) < (off : Int) + 33 ∨ (off : Int) + 33 ≤ (t.length : Int)) := by
      show (t.length : Int) < (off : Int) + 33 ∨ (off : Int) + 33 ≤ (t.length : Int)
      omega
    rcases HEND.out with hend | hend
    all_goals
      clear HEND
      go_wp2_with fail
      refine (clone_at (some ⟨B2, off, none⟩) _ (cap2 - off) hd w2 (by have := HHL.out; omega) (by omega) hrow.out).mono ?_
      rintro e w3 ⟨⟨a3, cap3, rfl, hbuf3⟩, hb3⟩
      have HBUF3 : Hid (Buf w3 a3 cap3 hd) := hbuf3
      clear hbuf3
      go_wp2_with fail
      refine (past_at B2 off (cap2 - off) (t.drop off) _ pt w3 (by rw [List.length_drop]) (by rw [List.length_drop]; omega) (HBY2.out.below hB2lt hb3) HPT.out).mono ?_
      rintro e w3' ⟨rfl, hw⟩
      have hw' := hw.symm
      subst hw'
      clear hw
      have hb13 := below_of hb2 hb3
      have hb03 := below_of hb1 hb13
      have HIN1 : Hid (Calls Tryd.prog 9 #[.slice a1 t.length cap1, .int .i64 off] w3 fun e w' => e = .returned (.pointer (some ⟨w3.heap.size, 0, none⟩)) ∧ InAt w' w3.heap.size a1 t.length cap1 off ∧ Below w3.heap.size w3 w') := newInput a1 t.length cap1 off u v w3 (eof_below H0.out hb03)
      go_wp2_with fail
      refine HIN1.out.mono ?_
      rintro e w4 ⟨rfl, hin4, hb4⟩
      have hb14 := below_of hb13 hb4
      have hb04 := below_of hb1 hb14
      have HM1 : Hid (Calls Tryd.prog 16 #[.pointer (some ⟨w3.heap.size, 0, none⟩), .string s] w4 fun e w' => e = .returned (.string (exOf T t off ++ colon ++ s)) ∧ Below w4.heap.size w4 w') := message T a1 cap1 off t s w1 w4 w3.heap.size hin4 (by omega) (by omega) HBUF1.out (HT.out.below hb1) (by omega) hb14
      clear hin4 HIN1
      generalize hX : exOf T t off = X at HM1
      have HX : Hid (exOf T t off = X) := hX
      clear hX
      go_wp2_with fail
      refine HM1.out.mono ?_
      rintro e w5 ⟨rfl, hb5⟩
      have hb05 := below_of hb04 hb5
      have hb35 := below_of hb4 hb5
      have HIN2 : Hid (Calls Tryd.prog 9 #[.slice a3 hd.length cap3, .int .i64 0] w5 fun e w' => e = .returned (.pointer (some ⟨w5.heap.size, 0, none⟩)) ∧ InAt w' w5.heap.size a3 hd.length cap3 0 ∧ Below w5.heap.size w5 w') := newInput a3 hd.length cap3 0 u v w5 (eof_below H0.out hb05)
      clear HM1
      go_wp2_with fail
      refine HIN2.out.mono ?_
      rintro e w6 ⟨rfl, hin6, hb6⟩
      have hb36 := below_of hb35 hb6
      have hb06 := below_of hb05 hb6
      have HM2 : Hid (Calls Tryd.prog 16 #[.pointer (some ⟨w5.heap.size, 0, none⟩), .string s] w6 fun e w' => e = .returned (.string (X ++ colon ++ s)) ∧ Below w6.heap.size w6 w') := by
        have hm := message T a3 cap3 0 hd s w3 w6 w5.heap.size hin6 (by omega) (by omega) HBUF3.out (HT.out.below hb03) (by omega) hb36
        rw [ex_head HHD.out, HX.out] at hm
        exact hm
      clear hin6 HIN2
      go_wp2_with fail
      refine HM2.out.mono ?_
      rintro e w7 ⟨rfl, hb7⟩
      have hb07 := below_of hb06 hb7
      clear HM2 hb1 hb2 hb3 hb4 hb5 hb6 hb7 hb02 hb13 hb03 hb14 hb04 hb05 hb35 hb36 hb06
      have hcol : colon.size = 2 := rfl
      have hx400 : X.size ≤ 400 := by rw [← HX.out]; exact exOf_size T t off
      have hx2 : 2 ≤ X.size := by rw [← HX.out]; exact exOf_two T t off
      have hsub : X.size + 2 + s.size - (2 + s.size) = X.size := by omega
      have htl := tail_eq X s
      have hhe := head_eq X s
      have hz0 : ∀ h, (X ++ colon)[0]'h = 34 := by rw [← HX.out]; exact exOf_head T t off colon
      cases pt
      · have hla : ∀ h, X[X.size - 1]'h = 34 := by rw [← HX.out]; exact exOf_last T t off HPT.out.symm
        go_wp2
        go_ret
        exact ⟨rfl, hb07⟩
      · obtain ⟨hx5, hxd⟩ : 5 ≤ X.size ∧ X.extract (X.size - 4) X.size = ⟨#[34, 46, 46, 46]⟩ := by rw [← HX.out]; exact exOf_past T t off HPT.out.symm
        have hx5' : (5 : Int) ≤ (X.size : Int) := by omega
        go_wp2
        go_ret
        exact ⟨rfl, hb07⟩
end Go.Proofs.Qxb6608766aDoor
