/-
  WALKS: excerpt.
-/
import Derived.Test.Qxb6608766aDoorWalkG
namespace Go.Proofs.Qxb6608766aDoor
open Go.RowKit

def QS (T : Lib.PrintTabs) (l : List UInt8) : ByteArray := strOfNums (Lib.quoteZ T ⟨l.toArray⟩)
def dots : ByteArray := ⟨#[46, 46, 46]⟩
def exS (T : Lib.PrintTabs) (t : List UInt8) : ByteArray :=
  if Pl.firstEnd t < t.length then QS T (t.take (max (Pl.firstEnd t) 1)) else if t.length ≤ 32 then QS T t else QS T (t.take (Pl.cutOf t)) ++ dots
theorem QS_size (T : Lib.PrintTabs) (l : List UInt8) : (QS T l).size ≤ 10 * l.length + 2 := by
  have := Lib.quoteZ_length_le T ⟨l.toArray⟩
  have e : (⟨l.toArray⟩ : ByteArray).size = l.length := by simp [ByteArray.size]
  rw [e] at this
  unfold QS strOfNums
  simp only [ByteArray.size, List.size_toArray, List.length_map]
  exact this

theorem add_at (B off j : Nat) : (⟨B, off, none⟩ : Addr).add j = ⟨B, off + j, none⟩ := by
  unfold Addr.add
  split
  · next h0 => subst h0; rfl
  · rfl
theorem conv_take {w : World} {B off : Nat} {t : List UInt8} (h : BytesOff w B off t) (k c : Nat) (hk : k ≤ t.length) :
    (convert 22 9 (.slice (some ⟨B, off, none⟩) k c)).run Tryd.prog w = .ok (.string ⟨(t.take k).toArray⟩) w := by
  have hl : (t.take k).length = k := by rw [List.length_take]; omega
  have := run_convert_bytes_back (P := Tryd.prog) w 22 9 5 ⟨B, off, none⟩ c (t.take k) Tryd.underlying22 Tryd.underlying5 Tryd.underlying9 (fun j hj => by
    rw [add_at]; exact (h.take k) j hj)
  rwa [hl] at this
theorem conv_empty (p : Option Addr) (c : Nat) (w : World) : (convert 22 9 (.slice p 0 c)).run Tryd.prog w = .ok (.string ⟨#[]⟩) w := by
  rcases p with _ | a <;> kernel_rfl

theorem tabSlice_below {g : Nat} {k : IntKind} {l : List Nat} {w w' : World} (h : Lib.TabSlice g k l w) (hb : Below w.heap.size w w') : Lib.TabSlice g k l w' := by
  obtain ⟨R, o, c, h1, h2⟩ := h
  refine ⟨R, o, c, (hb.cell (p := ⟨g, 0, none⟩) (World.block_lt_of_cell? w _ h1)).trans h1, fun j hj => ?_⟩
  exact (hb.cell (p := ⟨R, o + j, none⟩) (World.block_lt_of_cell? w _ (h2 j hj))).trans (h2 j hj)
theorem print_below {T : Lib.PrintTabs} {w w' : World} (h : Lib.PrintTabsAt 5 6 7 8 T w) (hb : Below w.heap.size w w') : Lib.PrintTabsAt 5 6 7 8 T w' := by
  obtain ⟨h1, h2, h3, h4, h5, h6, h7⟩ := h
  exact ⟨tabSlice_below h1 hb, tabSlice_below h2 hb, tabSlice_below h3 hb, tabSlice_below h4 hb, h5, h6, h7⟩
/-- The tables that strconv.Quote and utf8's decoders read. -/
def Tabs (T : Lib.PrintTabs) (w : World) : Prop := Lib.PrintTabsAt 5 6 7 8 T w ∧ Lib.Utf8Tabs 3 4 w
theorem Tabs.below {T : Lib.PrintTabs} {w w' : World} (h : Tabs T w) (hb : Below w.heap.size w w') : Tabs T w' := ⟨print_below h.1 hb, Utf8Tabs_below h.2 hb⟩
theorem Tabs.drewN {T : Lib.PrintTabs} {w : World} (h : Tabs T w) (q : Nat) : Tabs T (w.drewN q) := h

theorem quote_any (T : Lib.PrintTabs) (l : List UInt8) (w : World) (hl : l.length ≤ 1048576) (hT : Tabs T w) :
    Calls Tryd.prog 37 #[.string ⟨l.toArray⟩] w fun e w' => e = .returned (.string (QS T l)) ∧ Below w.heap.size w w' := by
  have e : (⟨l.toArray⟩ : ByteArray).size = l.length := by simp [ByteArray.size]
  exact Tryd.strconv_Quote T ⟨l.toArray⟩ w (by rw [e]; omega) hT.1 hT.2

theorem quote_of (T : Lib.PrintTabs) (l : List UInt8) (s : ByteArray) (hs : s = ⟨l.toArray⟩) (w : World) (hl : l.length ≤ 1048576) (hT : Tabs T w) :
    Calls Tryd.prog 37 #[.string s] w fun e w' => e = .returned (.string (QS T l)) ∧ Below w.heap.size w w' := by
  subst hs; exact quote_any T l w hl hT

set_option maxHeartbeats 800000 in
/-- An end lies among the bytes. -/
theorem exc_end (T : Lib.PrintTabs) (B off c : Nat) (t : List UInt8) (w : World) (hl : t.length ≤ 33) (hcap : t.length ≤ c) (hB : B < w.heap.size) (hc : BytesOff w B off t) (hT : Tabs T w) (hlt : Pl.firstEnd t < t.length) :
    Calls Tryd.prog 31 #[.slice (some ⟨B, off, none⟩) t.length c] w fun e w' => e = .returned (.string (QS T (t.take (max (Pl.firstEnd t) 1)))) ∧ Below w.heap.size w w' := by
  have HI : Hid (Calls Tryd.prog 36 #[.slice (some ⟨B, off, none⟩) t.length c, .func (.func 34) #[] #[]] w fun e w' => e = .returned (.int .i64 (Pl.firstEnd t : Int)) ∧ Below w.heap.size w w') := by
    have := index_some B off c t w (by omega) hcap hB hc hT.2
    unfold idxOf at this
    rwa [if_pos hlt] at this
  have HC : Hid (BytesOff w B off t) := hc
  have HT : Hid (Tabs T w) := hT
  clear hc hT
  obtain ⟨m, hm⟩ : ∃ m : Nat, m = max (Pl.firstEnd t) 1 := ⟨_, rfl⟩
  rw [← hm]
  have hm1 : 1 ≤ m := by omega
  have hm2 : m ≤ 32 := by omega
  have hm3 : m ≤ t.length := by omega
  obtain ⟨f, hf⟩ : ∃ f : Nat, f = Pl.firstEnd t := ⟨_, rfl⟩
  rw [← hf] at HI hm hlt
  have HM : Hid (m = max f 1) := hm
  clear hf hm
  have hmin : min (t.length : Int) 33 = (t.length : Int) := by omega
  go_enter Tryd.func31, Tryd.ntmps31
  go_wp2_with fail
  refine HI.out.mono ?_
  rintro e w1 ⟨rfl, hb1⟩
  have hcv := conv_take ((HC.out).below hB hb1) m c hm3
  have HQ := fun s (hs : s = (⟨(t.take m).toArray⟩ : ByteArray)) => quote_of T (t.take m) s hs w1 (by rw [List.length_take]; omega) (HT.out.below hb1)
  have HQ' : Hid (∀ s, s = (⟨(t.take m).toArray⟩ : ByteArray) → Calls Tryd.prog 37 #[.string s] w1 fun e w' => e = .returned (.string (QS T (t.take m))) ∧ Below w1.heap.size w1 w') := HQ
  clear HQ
  rcases Nat.lt_or_ge f 1 with hf0 | hf0
  · have hfe : f = 0 := by omega
    have hme : m = 1 := by have := HM.out; omega
    subst hfe hme
    have hmax : max (0 : Int) 1 = 1 := by omega
    go_wp2_with fail
    refine (HQ'.out _ rfl).mono ?_
    rintro e w2 ⟨rfl, hb2⟩
    go_wp2
    go_ret
    exact ⟨rfl, hb1.trans (hb2.mono hb1.size)⟩
  · have hme : m = f := by have := HM.out; omega
    subst hme
    have hmax : max (m : Int) 1 = (m : Int) := by omega
    go_wp2_with fail
    refine (HQ'.out _ rfl).mono ?_
    rintro e w2 ⟨rfl, hb2⟩
    go_wp2
    go_ret
    exact ⟨rfl, hb1.trans (hb2.mono hb1.size)⟩

set_option maxHeartbeats 800000 in
/-- No end; at most 32 bytes. -/
theorem exc_short (T : Lib.PrintTabs) (B off c : Nat) (t : List UInt8) (w : World) (hl : t.length ≤ 32) (hcap : t.length ≤ c) (hB : B < w.heap.size) (hc : BytesOff w B off t) (hT : Tabs T w) (hno : Pl.firstEnd t = t.length) :
    Calls Tryd.prog 31 #[.slice (some ⟨B, off, none⟩) t.length c] w fun e w' => e = .returned (.string (QS T t)) ∧ Below w.heap.size w w' := by
  have HI : Hid (Calls Tryd.prog 36 #[.slice (some ⟨B, off, none⟩) t.length c, .func (.func 34) #[] #[]] w fun e w' => e = .returned (.int .i64 (-1)) ∧ Below w.heap.size w w') := by
    have := index_some B off c t w (by omega) hcap hB hc hT.2
    unfold idxOf at this
    rwa [if_neg (by omega)] at this
  have HC : Hid (BytesOff w B off t) := hc
  have HT : Hid (Tabs T w) := hT
  clear hc hT hno
  have hmin : min (t.length : Int) 33 = (t.length : Int) := by omega
  go_enter Tryd.func31, Tryd.ntmps31
  go_wp2_with fail
  refine HI.out.mono ?_
  rintro e w1 ⟨rfl, hb1⟩
  have hcv := conv_take ((HC.out).below hB hb1) t.length c (Nat.le_refl _)
  rw [List.take_length] at hcv
  have HQ' : Hid (Calls Tryd.prog 37 #[.string ⟨t.toArray⟩] w1 fun e w' => e = .returned (.string (QS T t)) ∧ Below w1.heap.size w1 w') := quote_any T t w1 (by omega) (HT.out.below hb1)
  go_wp2_with fail
  refine HQ'.out.mono ?_
  rintro e w2 ⟨rfl, hb2⟩
  go_wp2
  go_ret
  exact ⟨rfl, hb1.trans (hb2.mono hb1.size)⟩

set_option maxHeartbeats 400000 in
theorem exc_empty (T : Lib.PrintTabs) (p : Option Addr) (c : Nat) (w : World) (hT : Tabs T w) :
    Calls Tryd.prog 31 #[.slice p 0 c] w fun e w' => e = .returned (.string (QS T [])) ∧ Below w.heap.size w w' := by
  have HI : Hid (∀ p c, Calls Tryd.prog 36 #[.slice p 0 c, .func (.func 34) #[] #[]] w fun e w' => e = .returned (.int .i64 (-1)) ∧ w' = w) := fun p c => index_none p c w
  have hmin : min (0 : Int) 33 = 0 := by omega
  have hcv := fun p c => conv_empty p c w
  have HQ' : Hid (Calls Tryd.prog 37 #[.string ⟨#[]⟩] w fun e w' => e = .returned (.string (QS T [])) ∧ Below w.heap.size w w') := quote_any T [] w (by simp) hT
  clear hT
  rcases p with _ | ad
  all_goals
    go_enter Tryd.func31, Tryd.ntmps31
    go_wp2_with fail
    refine (HI.out _ _).mono ?_
    rintro e w1 ⟨rfl, hw⟩
    have hw' := hw.symm
    subst hw'
    go_wp2_with fail
    refine HQ'.out.mono ?_
    rintro e w2 ⟨rfl, hb2⟩
    go_wp2
    go_ret
    exact ⟨rfl, hb2⟩

theorem cut_stop {t : List UInt8} {k : Nat} (h : Pl.cutOf t = Pl.cutGo 33 t k) (hf : Pl.fullL (t.drop k) = false) : Pl.cutOf t = k := by
  rw [h]; unfold Pl.cutGo; rw [if_neg (by rw [hf]; simp)]
theorem cut_over {t : List UInt8} {k d : Nat} (h : Pl.cutOf t = Pl.cutGo 33 t k) (hf : Pl.fullL (t.drop k) = true) (hd : d = (Lib.decodeL (t.drop k)).2) (ho : 32 < k + d) : Pl.cutOf t = k := by
  subst hd; rw [h]; unfold Pl.cutGo; rw [if_pos hf, if_pos ho]
theorem cut_next {t : List UInt8} {k d : Nat} (h : Pl.cutOf t = Pl.cutGo 33 t k) (hf : Pl.fullL (t.drop k) = true) (hd : d = (Lib.decodeL (t.drop k)).2) (ho : k + d ≤ 32) : Pl.cutOf t = Pl.cutGo 33 t (k + d) := by
  have hw := Lib.decodeL_width (t.drop k)
  subst hd
  rw [h]
  have e : Pl.cutGo 33 t k = Pl.cutGo 32 t (k + (Lib.decodeL (t.drop k)).2) := by
    conv => lhs; unfold Pl.cutGo
    rw [if_pos hf, if_neg (by omega)]
  rw [e]
  exact Pl.cutGo_fuel t 32 33 _ (by omega) (by omega)

set_option maxHeartbeats 1600000 in
/-- 33 bytes, no end. -/
theorem exc_long (T : Lib.PrintTabs) (B off c : Nat) (t : List UInt8) (w : World) (hl : t.length = 33) (hcap : t.length ≤ c) (hB : B < w.heap.size) (hc : BytesOff w B off t) (hT : Tabs T w) (hno : Pl.firstEnd t = t.length) :
    Calls Tryd.prog 31 #[.slice (some ⟨B, off, none⟩) t.length c] w fun e w' => e = .returned (.string (QS T (t.take (Pl.cutOf t)) ++ dots)) ∧ Below w.heap.size w w' := by
  have HI : Hid (Calls Tryd.prog 36 #[.slice (some ⟨B, off, none⟩) t.length c, .func (.func 34) #[] #[]] w fun e w' => e = .returned (.int .i64 (-1)) ∧ Below w.heap.size w w') := by
    have := index_some B off c t w (by omega) hcap hB hc hT.2
    unfold idxOf at this
    rwa [if_neg (by omega)] at this
  have HC : Hid (BytesOff w B off t) := hc
  have HT : Hid (Tabs T w) := hT
  have HL : Hid (t.length = 33) := hl
  rw [hl] at HI hcap ⊢
  clear hc hT hno hl
  have hmin : min (33 : Int) 33 = 33 := by omega
  go_enter Tryd.func31, Tryd.ntmps31
  go_wp2_with fail
  refine HI.out.mono ?_
  rintro e w1 ⟨rfl, hb1⟩
  clear HI
  go_wp2
  go_loopw [4] (fun i wr => ∃ k : Nat, k ≤ 32 ∧ i = .int .i64 k ∧ Hid (Pl.cutOf t = Pl.cutGo 33 t k) ∧ Below w.heap.size w wr) (fun i _ => 33 - (intOf i).toNat)
  case atStart => exact ⟨0, by omega, rfl, rfl, hb1⟩
  case round =>
    obtain ⟨k, hk, rfl, hcut, hbel⟩ := hrel
    have HBK : Hid (BytesOff wr B (off + k) (t.drop k)) := (HC.out.drop k).below hB hbel
    have hBr : B < wr.heap.size := Nat.lt_of_lt_of_le hB hbel.size
    have hfu := full_any B (off + k) (c - k) (t.drop k) wr (by rw [List.length_drop, HL.out]; omega) (by rw [List.length_drop, HL.out]; omega) hBr HBK.out (HT.out.below hbel).2
    rw [List.length_drop, HL.out] at hfu
    have HFU : Hid (Calls Tryd.prog 38 #[.slice (some ⟨B, off + k, none⟩) (33 - k) (c - k)] wr fun e w' => e = .returned (.bool (Pl.fullL (t.drop k))) ∧ Below wr.heap.size wr w') := hfu
    clear hfu
    have hc33 : (33 : Int) ≤ (c : Int) := by omega
    go_wp2_with fail
    refine HFU.out.mono ?_
    rintro e w2 ⟨rfl, hb2⟩
    have hbw2 : Below w.heap.size w w2 := hbel.trans (hb2.mono hbel.size)
    by_cases hful : Pl.fullL (t.drop k) = true
    · rw [hful]
      have hd := dec_any B (off + k) (c - k) (t.drop k) w2 (by rw [List.length_drop, HL.out]; omega) ((HC.out.drop k).below hB hbw2) (HT.out.below hbw2).2
      rw [List.length_drop, HL.out] at hd
      obtain ⟨r, hr⟩ : ∃ r : Int, r = ((Lib.decodeL (t.drop k)).1 : Int) := ⟨_, rfl⟩
      obtain ⟨d, hdw⟩ : ∃ d : Nat, d = (Lib.decodeL (t.drop k)).2 := ⟨_, rfl⟩
      have hw1 := Lib.decodeL_width (t.drop k)
      have hle := Lib.decodeL_le (t.drop k) (List.ne_nil_of_length_pos (by rw [List.length_drop, HL.out]; omega))
      rw [List.length_drop, HL.out] at hle
      rw [← hr, ← hdw] at hd
      rw [← hdw] at hw1 hle
      have HDW : Hid (d = (Lib.decodeL (t.drop k)).2) := hdw
      have HD : Hid (Calls Tryd.prog 39 #[.slice (some ⟨B, off + k, none⟩) (33 - k) (c - k)] w2 fun e w' => e = .returned (.tuple #[.int .i32 r, .int .i64 d]) ∧ Below w2.heap.size w2 w') := hd
      have HFL : Hid (Pl.fullL (t.drop k) = true) := hful
      clear hr hdw hd hful HFU HBK hb2
      go_wp2_with fail
      refine HD.out.mono ?_
      rintro e w3 ⟨rfl, hb3⟩
      have hbw3 : Below w.heap.size w w3 := hbw2.trans (hb3.mono hbw2.size)
      rcases Nat.lt_or_ge 32 (k + d) with hov | hov
      · have HCU : Hid (Pl.cutOf t = k) := cut_over hcut.out HFL.out HDW.out hov
        have hcv := conv_take ((HC.out).below hB hbw3) k c (by rw [HL.out]; omega)
        have hqs := QS_size T (t.take k)
        rw [List.length_take, HL.out] at hqs
        have HQ' : Hid (Calls Tryd.prog 37 #[.string ⟨(t.take k).toArray⟩] w3 fun e w' => e = .returned (.string (QS T (t.take k))) ∧ Below w3.heap.size w3 w') := quote_any T (t.take k) w3 (by rw [List.length_take]; omega) (HT.out.below hbw3)
        have hov' : (32 : Int) < (k : Int) + (d : Int) := by omega
        clear hcut HD hb3 hov
        go_wp2_with fail
        refine HQ'.out.mono ?_
        rintro e w4 ⟨rfl, hb4⟩
        go_wp2
        go_ret
        exact ⟨by rw [HCU.out]; rfl, hbw3.trans (hb4.mono hbw3.size)⟩
      · have HNX : Hid (Pl.cutOf t = Pl.cutGo 33 t (k + d)) := cut_next hcut.out HFL.out HDW.out hov
        have hov' : (k : Int) + (d : Int) ≤ 32 := by omega
        clear hcut HD hb3
        go_wp2
        go_roundw
        case rel => exact ⟨k + d, hov, by go_num, HNX, hbw3⟩
        case measure => simp [intOf]; omega
    · have hful' : Pl.fullL (t.drop k) = false := by simpa using hful
      rw [hful']
      have HCU : Hid (Pl.cutOf t = k) := cut_stop hcut.out hful'
      have hcv := conv_take ((HC.out).below hB hbw2) k c (by rw [HL.out]; omega)
      have hqs := QS_size T (t.take k)
      rw [List.length_take, HL.out] at hqs
      have HQ' : Hid (Calls Tryd.prog 37 #[.string ⟨(t.take k).toArray⟩] w2 fun e w' => e = .returned (.string (QS T (t.take k))) ∧ Below w2.heap.size w2 w') := quote_any T (t.take k) w2 (by rw [List.length_take]; omega) (HT.out.below hbw2)
      clear hful hful' hcut HFU HBK hb2
      go_wp2_with fail
      refine HQ'.out.mono ?_
      rintro e w3 ⟨rfl, hb3⟩
      go_wp2
      go_ret
      exact ⟨by rw [HCU.out]; rfl, hbw2.trans (hb3.mono hbw2.size)⟩

/-- **excerpt, at at most 33 bytes.** -/
theorem exc_some (T : Lib.PrintTabs) (B off c : Nat) (t : List UInt8) (w : World) (hl : t.length ≤ 33) (hcap : t.length ≤ c) (hB : B < w.heap.size) (hc : BytesOff w B off t) (hT : Tabs T w) :
    Calls Tryd.prog 31 #[.slice (some ⟨B, off, none⟩) t.length c] w fun e w' => e = .returned (.string (exS T t)) ∧ Below w.heap.size w w' := by
  have hle := Pl.firstEnd_le t
  unfold exS
  by_cases h1 : Pl.firstEnd t < t.length
  · rw [if_pos h1]
    exact exc_end T B off c t w hl hcap hB hc hT h1
  · rw [if_neg h1]
    by_cases h2 : t.length ≤ 32
    · rw [if_pos h2]
      exact exc_short T B off c t w h2 hcap hB hc hT (by omega)
    · rw [if_neg h2]
      exact exc_long T B off c t w (by omega) hcap hB hc hT (by omega)
theorem exS_empty (T : Lib.PrintTabs) : exS T [] = QS T [] := by
  unfold exS
  rw [if_neg (by simp), if_pos (by simp)]
/-- What peekUntil hands out tells as much as the first 33 bytes. -/
theorem exS_pk (T : Lib.PrintTabs) (t : List UInt8) : exS T (t.take (pk t)) = exS T (t.take 33) := by
  have hle := Pl.firstEnd_le t
  have hfe : ∀ n, Pl.firstEnd t < n → Pl.firstEnd t < t.length → Pl.firstEnd (t.take n) = Pl.firstEnd t := fun n hn hlt => by
    refine Pl.firstEnd_at (by rw [List.length_take]; omega) (fun j h hj => ?_) ?_
    · rw [List.getElem_take]; exact Pl.not_end_before _ hj
    · rw [List.getElem_take]; exact Pl.end_at_first hlt
  unfold pk
  by_cases h1 : Pl.firstEnd t < 32
  · rw [if_pos h1]
    by_cases h2 : Pl.firstEnd t < t.length
    · have e1 := hfe (min (Pl.firstEnd t + 1) t.length) (by omega) h2
      have e2 := hfe 33 (by omega) h2
      unfold exS
      rw [e1, e2, if_pos (by rw [List.length_take]; omega), if_pos (by rw [List.length_take]; omega), List.take_take, List.take_take]
      congr 2
      omega
    · have e : t.length ≤ 33 := by omega
      rw [List.take_of_length_le e, List.take_of_length_le (by omega)]
  · rw [if_neg h1]
    congr 1
    by_cases h3 : t.length ≤ 33
    · rw [List.take_of_length_le h3, List.take_of_length_le (by omega)]
    · rw [Nat.min_eq_left (by omega)]
end Go.Proofs.Qxb6608766aDoor
