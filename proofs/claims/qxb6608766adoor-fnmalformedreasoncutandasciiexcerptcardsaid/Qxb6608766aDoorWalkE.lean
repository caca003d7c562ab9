/-
  WALKS: peekUntil at the text's end, cloneBytes, zzBytes, runsPastCut.
-/
import Derived.Test.Qxb6608766aDoorWalkD
import Derived.Laws.MakeOwn
namespace Go.Proofs.Qxb6608766aDoor
open Go.RowKit

set_option maxHeartbeats 400000 in
theorem until_none (ib : Nat) (a : Option Addr) (n cap : Nat) (w : World) (h : InAt w ib a n cap n) (hn : n ≤ 1048576) (hcap : n ≤ cap) (hcap' : cap ≤ 9223372036854775807) (ha : a = none → cap = 0) :
    Calls Tryd.prog 32 #[.pointer (some ⟨ib, 0, none⟩), .int .i64 0, .int .i64 33, .func (.func 33) #[] #[]] w fun e w' => SaysEmpty e ∧ ∃ q, w' = w.drewN q := by
  have HP : Hid (Calls Tryd.prog 22 #[.pointer (some ⟨ib, 0, none⟩), .int .i64 0, .int .i64 1] w fun e w' => SaysEmpty e ∧ ∃ q, w' = w.drewN q) := by
    refine peek_out ib a n cap 1 w h hn (by omega) (by omega) hcap hcap' ha ?_
    rintro W ⟨q, rfl⟩
    refine (at_out ib a n cap n 0 (w.drewN q) (h.drewN q) hn (by omega) (by omega) (by omega)).mono ?_
    rintro e w' ⟨he, q2, rfl⟩
    exact ⟨he, q + q2, by simp⟩
  clear h
  go_enter Tryd.func32, Tryd.ntmps32
  go_wp2
  refine wp_loop_rounds 1 ?_
  rw [rounds_succ]
  go_wp2_with fail
  refine HP.out.mono ?_
  rintro e w' ⟨⟨p, c, hc, rfl⟩, q, rfl⟩
  go_wp2
  go_ret
  exact ⟨⟨p, c, hc, rfl⟩, q, rfl⟩

theorem eqNil (a : Option Addr) (n c : Nat) (w : World) : (binOp .eql 22 (.slice a n c) (.slice none 0 0)).run Tryd.prog w = .ok (.bool a.isNone) w := by
  rcases a with _ | ad <;> kernel_rfl
theorem infoByte : (Tryd.prog.info? 5).map (fun i => (i.zero, i.size, i.bytes)) = some (some (.int .u8 0), 1, 1) := by kernel_rfl

set_option maxHeartbeats 400000 in
theorem clone_nil (n c : Nat) (w : World) : Calls Tryd.prog 8 #[.slice none n c] w fun e w' => e = .returned (.slice none 0 0) ∧ w' = w := by
  have he := eqNil none n c w
  go_enter Tryd.func8, Tryd.ntmps8
  go_wp2
  go_ret
  exact ⟨rfl, rfl⟩

set_option maxHeartbeats 400000 in
theorem clone_empty (ad : Addr) (c : Nat) (w : World) : Calls Tryd.prog 8 #[.slice (some ad) 0 c] w fun e w' => e = .returned (.slice (some ⟨w.heap.size, 0, none⟩) 0 0) ∧ Below w.heap.size w w' := by
  have he := eqNil (some ad) 0 c w
  obtain ⟨i0, hi, hz0, hz1, hz2⟩ := info_parts infoByte
  have hmk := run_makeSlice (P := Tryd.prog) (w := w) 22 5 i0 _ Tryd.underlying22 hi hz0 .i64 .i64 0 0 (by omega) (by omega) (by rw [hz1]; decide) (by rw [hz2]; decide) (by omega)
  go_enter Tryd.func8, Tryd.ntmps8
  go_wp2
  refine wp_loop_rounds 1 ?_
  rw [rounds_succ]
  go_wp2
  go_ret
  exact ⟨rfl, (Below.refl _ _).alloc (Nat.le_refl _) _⟩

/-- The first k bytes of t lie at the head of block C, which has n cells, none frozen. -/
def Copied (w : World) (C n k : Nat) (t : List UInt8) : Prop :=
  (∃ cur : Array Value, w.heap[C]? = some (.cells cur 5 (0, 0)) ∧ cur.size = n) ∧ ∀ j (h : j < t.length), j < k → w.cell? ⟨C, j, none⟩ = some (.int .u8 (t[j].toNat : Int))
theorem copied_made (w : World) (cur : Array Value) (n : Nat) (t : List UInt8) (h : cur.size = n) : Copied (w.alloc (.cells cur 5)) w.heap.size n 0 t :=
  ⟨⟨cur, heap_alloc_new w _, h⟩, fun j _ hj => by omega⟩
theorem Copied.cell {w : World} {C n k : Nat} {t : List UInt8} (h : Copied w C n k t) {j : Nat} (hj : j < n) : (∃ v, w.cell? ⟨C, j, none⟩ = some v) ∧ w.frozen? ⟨C, j, none⟩ = false := by
  obtain ⟨⟨cur, hb, hs⟩, _⟩ := h
  refine ⟨⟨cur[j], ?_⟩, ?_⟩
  · unfold World.cell?
    rw [hb]
    simp [hs, hj]
  · unfold World.frozen?
    rw [hb]
    simp
theorem Copied.set {w : World} {C n k : Nat} {t : List UInt8} (h : Copied w C n k t) (hk : k < n) (hkt : k < t.length) : Copied (w.setCell ⟨C, k, none⟩ (.int .u8 (t[k].toNat : Int))) C n (k + 1) t := by
  obtain ⟨v, hv⟩ := (h.cell hk).1
  obtain ⟨⟨cur, hb, hs⟩, hc⟩ := h
  refine ⟨⟨_, heap_setCell_same w C k cur 5 _ hb, by simpa using hs⟩, fun j hj hjk => ?_⟩
  by_cases e : j = k
  · subst e
    exact World.cell?_setCell_same _ _ _ hv
  · rw [World.cell?_setCell_other _ _ _ _ (by simp)]
    exact hc j hj (by omega)

set_option maxHeartbeats 400000 in
theorem clone_some (b off c : Nat) (t : List UInt8) (w : World) (hl : t.length ≤ 1048576) (hpos : 0 < t.length) (hb : b < w.heap.size) (hc : BytesOff w b off t) :
    Calls Tryd.prog 8 #[.slice (some ⟨b, off, none⟩) t.length c] w fun e w' => e = .returned (.slice (some ⟨w.heap.size, 0, none⟩) t.length t.length) ∧ BytesAt w' w.heap.size t ∧ Below w.heap.size w w' := by
  have he := eqNil (some ⟨b, off, none⟩) t.length c w
  obtain ⟨i0, hi, hz0, hz1, hz2⟩ := info_parts infoByte
  have hmk := run_makeSlice (P := Tryd.prog) (w := w) 22 5 i0 _ Tryd.underlying22 hi hz0 .i64 .i64 (t.length : Int) (t.length : Int) (by omega) (by omega) (by rw [hz1]; omega) (by rw [hz2]; omega) (by omega)
  rw [hz1] at hmk
  clear hi hz0 hz1 hz2
  have HC : Hid (BytesOff w b off t) := hc
  clear hc
  go_enter Tryd.func8, Tryd.ntmps8
  go_wp2
  clear hmk he
  go_loopw [4] (fun i wr => ∃ k : Nat, k ≤ t.length ∧ i = .int .i64 k ∧ Copied wr w.heap.size t.length k t ∧ Below w.heap.size w wr) (fun i _ => t.length - (intOf i).toNat)
  case atStart => exact ⟨0, by omega, rfl, copied_made w _ _ t (by rw [size_madeCells]), (Below.refl _ _).alloc (Nat.le_refl _) _⟩
  case round =>
    obtain ⟨k, hk, rfl, hcop, hbel⟩ := hrel
    rcases Nat.lt_or_ge k t.length with hlt | hge
    · have hck : wr.cell? ⟨b, off + k, none⟩ = some (.int .u8 (t[k].toNat : Int)) := (hbel.cell (p := ⟨b, off + k, none⟩) hb).trans (HC.out k hlt)
      obtain ⟨⟨v, hv⟩, hfz⟩ := hcop.cell hlt
      have HS : Hid (Copied (wr.setCell ⟨w.heap.size, k, none⟩ (.int .u8 (t[k].toNat : Int))) w.heap.size t.length (k + 1) t) := hcop.set hlt hlt
      clear hcop
      go_wp2
      go_roundw
      case rel => exact ⟨k + 1, by omega, by go_num, HS.out, hbel.setCell (Nat.le_refl _) _⟩
      case measure => simp [intOf]; omega
    · go_wp2
      go_ret
      exact ⟨rfl, fun j hj => hcop.2 j hj (by omega), hbel⟩

/-- The call answers some bool. -/
def SaysBool (e : Ending) : Prop := ∃ b : Bool, e = .returned (.bool b)
theorem says (b : Bool) : SaysBool (.returned (.bool b)) := ⟨b, rfl⟩

set_option maxHeartbeats 400000 in
theorem bytes2_any (a : Option Addr) (n c : Nat) (off : Int) (s : ByteArray) (w : World) (hn : n ≤ maxLen) (hs : s.size ≤ maxLen) :
    Calls Tryd.prog 18 #[.slice a n c, .int .i64 off, .string s] w fun e w' => SaysBool e ∧ w' = w := by
  unfold maxLen at hn hs
  go_enter Tryd.func18, Tryd.ntmps18
  go_wp2
  all_goals
    go_ret
    exact ⟨says _, rfl⟩
set_option maxHeartbeats 400000 in
theorem bytes3_any (a : Option Addr) (n c : Nat) (off : Int) (s u : ByteArray) (w : World) (hn : n ≤ maxLen) (hs : s.size ≤ maxLen) (hu : u.size ≤ maxLen) :
    Calls Tryd.prog 15 #[.slice a n c, .int .i64 off, .string s, .string u] w fun e w' => SaysBool e ∧ w' = w := by
  unfold maxLen at hn hs hu
  go_enter Tryd.func15, Tryd.ntmps15
  go_wp2
  all_goals
    go_ret
    exact ⟨says _, rfl⟩

/-- Does t hold 33 bytes, none of which ends an excerpt? -/
def past (t : List UInt8) : Bool := decide (33 ≤ t.length ∧ 33 ≤ Pl.firstEnd t)

set_option maxHeartbeats 400000 in
theorem past_short (a : Option Addr) (n c : Nat) (w : World) (hn : (n : Int) < 33) :
    Calls Tryd.prog 19 #[.slice a n c] w fun e w' => e = .returned (.bool false) ∧ w' = w := by
  go_enter Tryd.func19, Tryd.ntmps19
  go_wp2
  go_ret
  exact ⟨rfl, rfl⟩

set_option maxHeartbeats 400000 in
theorem past_long (b off c : Nat) (t : List UInt8) (w : World) (hl : t.length ≤ 1048576) (hn : (33 : Int) ≤ (t.length : Int)) (hc : BytesOff w b off t) :
    Calls Tryd.prog 19 #[.slice (some ⟨b, off, none⟩) t.length c] w fun e w' => e = .returned (.bool (past t)) ∧ w' = w := by
  have HC : Hid (BytesOff w b off t) := hc
  clear hc
  go_enter Tryd.func19, Tryd.ntmps19
  go_wp2
  go_loop [3] (fun i => ∃ k : Nat, k ≤ 33 ∧ i = .int .i64 k ∧ k ≤ Pl.firstEnd t) (fun i => 33 - (intOf i).toNat)
  case atStart => exact ⟨0, by omega, rfl, by omega⟩
  case round =>
    obtain ⟨k, hk, rfl, hf⟩ := hrel
    rcases Nat.lt_or_ge k 33 with hlt | hge
    · have hkt : k < t.length := by omega
      have hck := HC.out k hkt
      obtain ⟨x, hx⟩ : ∃ x : Int, x = (t[k].toNat : Int) := ⟨_, rfl⟩
      rw [← hx] at hck
      have HX : Hid (x = (t[k].toNat : Int)) := hx
      have HE : Hid (Calls Tryd.prog 24 #[.int .u8 x] w fun e w' => e = .returned (.bool (endN x)) ∧ w' = w) := endByte_any x w
      clear hx
      go_wp2_with fail
      refine HE.out.mono ?_
      rintro e w' ⟨rfl, hw⟩
      have hw' := hw.symm
      subst hw'
      by_cases he : endN x = true
      · have hp : Hid (past t = false) := by
          have e1 := he
          rw [HX.out, endN_endB] at e1
          have := Pl.firstEnd_at hkt (fun j h hj => Pl.not_end_before h (by omega)) e1
          exact decide_eq_false (by omega)
        rw [he]
        clear he
        go_wp2
        go_ret
        exact ⟨ret_bool hp.out.symm, rfl⟩
      · have he' : endN x = false := by simpa using he
        have hf2 : k + 1 ≤ Pl.firstEnd t := by
          rcases Nat.lt_or_ge k (Pl.firstEnd t) with h | h
          · omega
          · have e1 : Pl.firstEnd t = k := by omega
            have := Pl.end_at_first (t := t) (by omega)
            simp only [e1] at this
            rw [HX.out, endN_endB, this] at he'
            cases he'
        rw [he']
        clear he he'
        go_wp2
        go_round
        case rel => exact ⟨k + 1, by omega, by go_num, hf2⟩
        case measure => simp [intOf]; omega
    · have hp : Hid (past t = true) := decide_eq_true (by omega)
      go_wp2
      go_ret
      exact ⟨ret_bool hp.out.symm, rfl⟩
end Go.Proofs.Qxb6608766aDoor
