/-
  WALK: asciiExcerpt.
-/
import Derived.Test.Qxb6608766aDoorAscii
import Derived.Test.Qxb6608766aDoorAsciiPlain
import Derived.Deep.DeepCutAuto
import Derived.Deep.CutBlock
import Derived.Deep.LoopGhost
namespace Go.Proofs.Qxb6608766aDoor
open Go.RowKit

theorem esc_any (T : Lib.PrintTabs) (c : Int) (B n : Nat) (v : Value) (xs : List Value) (W0 w : World) (hb : Lib.OwnBuf B 5 v n xs W0 w) (hn : n ≤ 1000000) (h0 : 0 ≤ c) (h1 : c < 128) :
    Calls Tryd.prog 25 #[v, .int .u8 c] w fun e w' => SaysOwn B n xs (Lib.escRune T c) W0 w' e := by
  by_cases hc : c = 34 ∨ c = 92 ∨ c = 7 ∨ c = 8 ∨ c = 9 ∨ c = 10 ∨ c = 11 ∨ c = 12 ∨ c = 13
  · exact esc_named T c B n v xs W0 w hb hn hc
  · by_cases hp : 32 ≤ c ∧ c < 127
    · exact esc_print T c B n v xs W0 w hb hn hp.1 hp.2 (by omega) (by omega)
    · exact esc_hex T c B n v xs W0 w hb hn h0 (by omega)

/-- An answer of asciiExcerpt: where it says 'ascii', the text is X. -/
def SaysEx (X : ByteArray) (e : Ending) : Prop := ∃ (s : ByteArray) (q : Bool), e = .returned (.tuple #[.string s, .bool q]) ∧ (q = true → s = X)

theorem cells_own {B n : Nat} {v : Value} {ys : List Int} {W0 w : World} (h : Lib.OwnBuf B 5 v n (Lib.intCells ys) W0 w) (hpos : 0 < n) :
    ∀ w', w' = w → (convert 22 9 v).run Tryd.prog w' = .ok (.string (strOfNums ys)) w' := by
  rintro w' rfl
  obtain ⟨hl, h2⟩ := h.1
  rcases h2 with ⟨_, h0⟩ | ⟨g, cap, cur, fz, rfl, _, hg, _, hnc, _, hcs, htake⟩
  · omega
  · have hyl : ys.length = n := by simpa [Lib.intCells] using hl
    refine run_convert_bytes_arg w' 22 5 Tryd.underlying22 Tryd.underlying5 g 0 n cap ys hyl (fun j hj => ?_) 9 Tryd.underlying9
    have e : cur.toList[j]? = some (.int .u8 (ys.getD j 0)) := by
      have : (cur.toList.take (n * 1))[j]? = cur.toList[j]? := by rw [List.getElem?_take, if_pos (by omega)]
      rw [← this, htake]
      unfold Lib.intCells
      rw [List.getElem?_map, List.getElem?_eq_getElem (by omega), List.getD, List.getElem?_eq_getElem (by omega)]
      rfl
    rw [Nat.zero_add]
    unfold World.cell?
    rw [hg]
    rw [Array.getElem?_toList] at e
    simp [e]

set_option maxHeartbeats 1600000 in
set_option maxRecDepth 100000 in
theorem ascii_some (T : Lib.PrintTabs) (b off c : Nat) (t : List UInt8) (w : World) (hl : t.length ≤ 1048576) (hb : b < w.heap.size) (hc : BytesOff w b off t) :
    Calls Tryd.prog 17 #[.slice (some ⟨b, off, none⟩) t.length c] w fun e w' => SaysEx (exS T (t.take 33)) e ∧ Below w.heap.size w w' := by
  have HC : Hid (BytesOff w b off t) := hc
  clear hc
  obtain ⟨i0, hi, hz0, hz1, hz2⟩ := info_parts infoByte
  have HI : Hid (Tryd.prog.info? 5 = some i0 ∧ i0.zero = some (.int .u8 0) ∧ i0.size = 1 ∧ i0.bytes = 1) := ⟨hi, hz0, hz1, hz2⟩
  clear hi hz0 hz1 hz2
  have HFL : Hid (Pl.firstEnd t ≤ t.length) := Pl.firstEnd_le t
  go_enter Tryd.func17, Tryd.ntmps17
  have HNL : Hid (nOf t ≤ t.length ∧ nOf t ≤ 32) := nOf_le t
  have HSX : Hid (asc (t.take (nOf t)) → exS T (t.take 33) = strOfNums (34 :: (escs T (t.take (nOf t)) ++ tailOf (mOf t)))) := exS_want T t
  generalize exS T (t.take 33) = X at HSX ⊢
  go_upto_block 0 with fail
  go_cut [4, 5] (fun e _ wx => wx = w ∧ e = .int .i64 (eOf t))
  case first =>
    go_wp2_with fail
    go_loopg [4, 5] 33 (fun g e i wx => wx = w ∧ e = .int .i64 t.length ∧ ∃ k : Nat, k ≤ 33 ∧ k ≤ t.length ∧ g = 33 - k ∧ i = .int .i64 k ∧ k ≤ Pl.firstEnd t)
    case atStart => exact ⟨rfl, rfl, 0, by omega, by omega, by omega, rfl, by omega⟩
    case round =>
      obtain ⟨rfl, rfl, k, hk, hkl, hg, rfl, hf⟩ := hrel
      have HG : Hid (gk = 33 - k) := hg
      clear hg
      rcases Nat.lt_or_ge k t.length with hlt | hge
      · rcases Nat.lt_or_ge k 33 with hlt3 | hge3
        · have hck := HC.out k hlt
          obtain ⟨x, hx⟩ : ∃ x : Int, x = (t[k].toNat : Int) := ⟨_, rfl⟩
          rw [← hx] at hck
          have HX : Hid (x = (t[k].toNat : Int)) := hx
          have HE : Hid (∀ w, Calls Tryd.prog 24 #[.int .u8 x] w fun e w' => e = .returned (.bool (endN x)) ∧ w' = w) := fun w => endByte_any x w
          clear hx
          go_wp2_with fail
          refine (HE.out _).mono ?_
          rintro e w' ⟨rfl, hw⟩
          have hw' := hw.symm
          subst hw'
          by_cases he : endN x = true
          · have hp : Hid (eOf t = k) := by
              have e1 := he
              rw [HX.out, endN_endB] at e1
              have e2 := Pl.firstEnd_at hlt (fun j h hj => Pl.not_end_before h (by omega)) e1
              show eOf t = k
              unfold eOf
              rw [e2, if_pos hlt3]
            rw [he]
            clear he
            go_wp2
            go_meet
            exact ⟨rfl, by rw [hp.out]⟩
          · have he' : endN x = false := by simpa using he
            have hf2 : k + 1 ≤ Pl.firstEnd t := by
              rcases Nat.lt_or_ge k (Pl.firstEnd t) with h | h
              · omega
              · have e1 : Pl.firstEnd t = k := by omega
                have := Pl.end_at_first (t := t) (by omega)
                simp only [e1] at this
                rw [HX.out, endN_endB, this] at he'
                cases he'
            rw [he']
            clear he he'
            go_wp2
            go_roundg (33 - (k + 1))
            case rel => exact ⟨rfl, rfl, k + 1, by omega, by omega, rfl, by go_num, hf2⟩
            case measure => have := HG.out; omega
        · have hp : Hid (eOf t = t.length) := by
            show eOf t = t.length
            have := HFL.out
            unfold eOf
            split <;> omega
          go_wp2
          go_meet
          exact ⟨rfl, by rw [hp.out]⟩
      · have hp : Hid (eOf t = t.length) := by
          show eOf t = t.length
          have := HFL.out
          unfold eOf
          split <;> omega
        go_wp2
        go_meet
        exact ⟨rfl, by rw [hp.out]⟩
  case rest =>
    obtain ⟨rfl, rfl⟩ := hcut
    have HNO : Hid (nOf t = if 32 < eOf t then 32 else if eOf t = 0 ∧ 0 < t.length then 1 else eOf t) := rfl
    have HMO : Hid (mOf t = decide (32 < eOf t)) := rfl
    have hee : eOf t ≤ 1048576 := by
      have := HFL.out
      unfold eOf
      split <;> omega
    generalize nOf t = N at HNO HNL HSX
    generalize mOf t = M at HMO HSX
    generalize eOf t = E at HNO HMO hee
    go_upto_region 8 with fail
    go_cut [35] (fun q wx => wx = wc ∧ q = .bool (decide (E = 0 ∧ 0 < t.length)))
    case first =>
      rcases Int.lt_or_le 0 (E : Int) with h1 | h1
      · have e : Hid (decide (E = 0 ∧ 0 < t.length) = false) := decide_eq_false (by omega)
        go_wp2
        go_meet
        exact ⟨rfl, by rw [e.out]⟩
      · have e0 : E = 0 := by omega
        subst e0
        go_wp2
        go_meet
        exact ⟨rfl, by simp⟩
    case rest =>
      obtain ⟨rfl, rfl⟩ := hcut
      have HQ : Hid ((N = if 32 < E then 32 else if decide (E = 0 ∧ 0 < t.length) = true then 1 else E) ∧ (decide (E = 0 ∧ 0 < t.length) = true → E = 0)) := by
        refine ⟨?_, fun h => (of_decide_eq_true h).1⟩
        rw [HNO.out]
        simp only [decide_eq_true_eq]
      generalize decide (E = 0 ∧ 0 < t.length) = q at HQ
      go_upto_if 35 with fail
      go_cut [6] (fun n wx => wx = wc ∧ ∃ n1 : Nat, n = .int .i64 n1 ∧ n1 ≤ 1048576 ∧ (N = if 32 < n1 then 32 else n1) ∧ M = decide (32 < n1))
      case first =>
        cases q
        · go_wp2
          go_meet
          exact ⟨rfl, E, rfl, hee, by have := HQ.out.1; simpa using this, HMO.out⟩
        · go_wp2
          go_meet
          have e0 := HQ.out.2 (by simp)
          exact ⟨rfl, 1, rfl, by omega, by have := HQ.out.1; rw [e0] at this; simpa using this, by rw [HMO.out, e0]; rfl⟩
      case rest =>
        obtain ⟨rfl, n1, rfl, hn1, hN, hM⟩ := hcut
        have HN1 : Hid (N = if 32 < n1 then 32 else n1) := hN
        have HM1 : Hid (M = decide (32 < n1)) := hM
        clear hN hM HQ HNO HMO
        go_upto_if 37 with fail
        go_cut [6, 7] (fun n m wx => wx = wc ∧ n = .int .i64 N ∧ m = .bool M)
        case first =>
          rcases Int.lt_or_le 32 (n1 : Int) with h1 | h1
          · go_wp2
            go_meet
            exact ⟨rfl, by rw [HN1.out, if_pos (by omega)]; rfl, by rw [HM1.out, decide_eq_true (by omega)]⟩
          · go_wp2
            go_meet
            exact ⟨rfl, by rw [HN1.out, if_neg (by omega)], by rw [HM1.out, decide_eq_false (by omega)]⟩
        case rest =>
          obtain ⟨rfl, rfl, rfl⟩ := hcut
          clear HN1 HM1
          have hn32 : N ≤ 32 := HNL.out.2
          have hnt : N ≤ t.length := HNL.out.1
          go_wp2
          go_loopg [8, 9] N (fun g out i wx => ∃ (k : Nat), k ≤ N ∧ g = N - k ∧ i = .int .i64 k ∧ Hid (asc (t.take k)) ∧ Hid (Lib.OwnBuf wc.heap.size 5 out (1 + (escs T (t.take k)).length) (Lib.intCells (34 :: escs T (t.take k))) wc wx))
          case atStart =>
            refine ⟨0, by omega, by omega, rfl, fun b hb => by simp at hb, ⟨⟨rfl, .inr ⟨wc.heap.size, 1, #[.int .u8 34], (0, 0), rfl, Nat.le_refl _, heap_alloc_new wc _, by simp, by simp [escs], by decide, rfl, rfl⟩⟩, (Below.refl _ _).alloc (Nat.le_refl _) _, ?_⟩⟩
            exact ((Below.refl 0 wc).alloc (Nat.zero_le _) _).size
          case round =>
            obtain ⟨k, hk, hg, rfl, ha, hown⟩ := hrel
            have HG : Hid (gk = N - k) := hg
            clear hg
            have hesl : (escs T (t.take k)).length ≤ 320 := by
              have := escs_length T (t.take k)
              rw [List.length_take] at this
              omega
            rcases Nat.lt_or_ge k N with hlt | hge
            · have hkt : k < t.length := by omega
              have hck := (HC.out.below hb hown.out.2.1) k hkt
              obtain ⟨x, hx⟩ : ∃ x : Int, x = (t[k].toNat : Int) := ⟨_, rfl⟩
              rw [← hx] at hck
              have HX : Hid (x = (t[k].toNat : Int)) := hx
              have hx0 : 0 ≤ x := by omega
              clear hx
              rcases Int.lt_or_le x 128 with hx1 | hx1
              · have HE := esc_any T x wc.heap.size _ _ _ wc wr hown.out (by omega) hx0 hx1
                have HE' : Hid (Calls Tryd.prog 25 #[_, .int .u8 x] wr fun e w' => SaysOwn wc.heap.size _ _ (Lib.escRune T x) wc w' e) := HE
                clear HE
                go_wp2_with fail
                refine HE'.out.mono ?_
                rintro e w' ⟨v', rfl, hown'⟩
                have HO' : Hid (Lib.OwnBuf wc.heap.size 5 v' (1 + (escs T (t.take (k + 1))).length) (Lib.intCells (34 :: escs T (t.take (k + 1)))) wc w') := by
                  have e1 := escs_step T hkt
                  rw [← HX.out] at e1
                  rw [e1]
                  show Lib.OwnBuf _ _ _ _ _ _ _
                  simpa [Lib.intCells, Nat.add_assoc] using hown'
                have HA' : Hid (asc (t.take (k + 1))) := asc_step hkt ha.out (by have := HX.out; omega)
                clear hown' HE' hown ha
                go_wp2
                go_roundg (N - (k + 1))
                case rel => exact ⟨k + 1, by omega, rfl, by go_num, HA', HO'⟩
                case measure => have := HG.out; omega
              · go_wp2
                go_ret2
                exact ⟨⟨_, _, rfl, fun h => by cases h⟩, hown.out.2.1⟩
            · have hkn : k = N := by omega
              subst hkn
              obtain ⟨hi, hz0, hz1, hz2⟩ := HI.out
              have hown1 := hown.out
              cases M
              · go_wp2_with (at_builtin; refine wpList_append_cells rfl _ _ 22 rfl wc.heap.size 5 i0 Tryd.underlying22 hi hz0 hz1 hz2 _ _ _ rfl wc _ _ (by decide) (by assumption) rfl (by simp; omega) ?_; intro _ _ hown2)
                have hcv := cells_own (ys := 34 :: (escs T (t.take k) ++ [34])) (n := _) (by simpa [Lib.intCells] using hown2) (by omega) _ rfl
                rw [hcv]
                go_wp2
                go_ret2
                exact ⟨⟨_, _, rfl, fun _ => (HSX.out ha.out).symm⟩, hown2.2.1⟩
              · go_wp2_with (at_builtin; refine wpList_append_cells rfl _ _ 22 rfl wc.heap.size 5 i0 Tryd.underlying22 hi hz0 hz1 hz2 _ _ _ rfl wc _ _ (by decide) (by assumption) rfl (by simp; omega) ?_; intro _ _ hown2)
                have hcv := cells_own (ys := 34 :: (escs T (t.take k) ++ [34, 46, 46, 46])) (n := _) (by simpa [Lib.intCells] using hown2) (by omega) _ rfl
                rw [hcv]
                go_wp2
                go_ret2
                exact ⟨⟨_, _, rfl, fun _ => (HSX.out ha.out).symm⟩, hown2.2.1⟩
end Go.Proofs.Qxb6608766aDoor
