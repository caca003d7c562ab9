/-
  PLAIN: the excerpt, of bytes below 0x80.
-/
import Derived.Test.Qxb6608766aDoorText
import Derived.Lib.TrimAscii
namespace Go.Proofs.Qxb6608766aDoor
open Go.RowKit

def asc (l : List UInt8) : Prop := ∀ b ∈ l, b.toNat < 128
def escs (T : Lib.PrintTabs) (l : List UInt8) : List Int := l.flatMap fun b => Lib.escRune T (b.toNat : Int)
theorem take_succ_at (t : List UInt8) (k : Nat) (h : k < t.length) : t.take (k + 1) = t.take k ++ [t[k]] := by
  rw [List.take_add_one, List.getElem?_eq_getElem h]; rfl
theorem asc_step {t : List UInt8} {k : Nat} (h : k < t.length) (ha : asc (t.take k)) (hb : t[k].toNat < 128) : asc (t.take (k + 1)) := by
  rw [take_succ_at t k h]
  intro b hm
  rcases List.mem_append.1 hm with hm | hm
  · exact ha b hm
  · rw [List.mem_singleton] at hm; subst hm; exact hb
theorem escs_step (T : Lib.PrintTabs) {t : List UInt8} {k : Nat} (h : k < t.length) : escs T (t.take (k + 1)) = escs T (t.take k) ++ Lib.escRune T (t[k].toNat : Int) := by
  rw [take_succ_at t k h]
  unfold escs
  rw [List.flatMap_append]
  simp
theorem escs_length (T : Lib.PrintTabs) (l : List UInt8) : (escs T l).length ≤ 10 * l.length := by
  induction l with
  | nil => simp [escs]
  | cons b t ih =>
    have e : escs T (b :: t) = Lib.escRune T (b.toNat : Int) ++ escs T t := rfl
    have := Lib.escRune_length_le T (b.toNat : Int)
    rw [e, List.length_append, List.length_cons]
    omega
theorem tail_ext (b : UInt8) (t : List UInt8) : (⟨(b :: t).toArray⟩ : ByteArray).extract 1 (⟨(b :: t).toArray⟩ : ByteArray).size = ⟨t.toArray⟩ := by
  apply ByteArray.ext
  apply Array.ext'
  rw [Lib.extract_data]
  simp [ByteArray.size]
theorem quoteFrom_asc (T : Lib.PrintTabs) : ∀ (l : List UInt8) (f : Nat), l.length ≤ f → asc l → Lib.quoteFrom T f ⟨l.toArray⟩ = escs T l
  | [], f, _, _ => by rw [Lib.quoteFrom_end T f _ (by simp [ByteArray.size])]; rfl
  | b :: t, f, hf, ha => by
    have hb := ha b (by simp)
    have hs : (⟨(b :: t).toArray⟩ : ByteArray).size = t.length + 1 := by simp [ByteArray.size]
    have hd : Utf8.decode ⟨(b :: t).toArray⟩ 0 = (b.toNat, 1) := Lib.decodeL_ascii b t hb
    rw [List.length_cons] at hf
    rw [Lib.quoteFrom_step T f _ (by rw [hs]; omega) (by rw [hs]; omega), Lib.quoteStep_good T _ (by rw [hd]; omega), hd]
    show Lib.escRune T (b.toNat : Int) ++ Lib.quoteFrom T (f - 1) (ByteArray.extract _ 1 _) = _
    rw [tail_ext, quoteFrom_asc T t (f - 1) (by omega) (fun c hc => ha c (List.mem_cons_of_mem _ hc))]
    rfl
theorem QS_asc (T : Lib.PrintTabs) (l : List UInt8) (h : asc l) : QS T l = strOfNums (34 :: (escs T l ++ [34])) := by
  unfold QS Lib.quoteZ
  rw [quoteFrom_asc T l _ (by simp [ByteArray.size]) h]

theorem full_asc (b : UInt8) (t : List UInt8) (h : b.toNat < 128) : Pl.fullL (b :: t) = true := by
  unfold Pl.fullL Pl.fullN
  rw [if_neg (by simp)]
  have e : Lib.firstT ((b :: t).getD 0 0).toNat % 8 = 0 := by
    show Lib.firstT b.toNat % 8 = 0
    unfold Lib.firstT
    rw [if_pos h]
  rw [e, if_pos (by omega)]
theorem cutGo_asc (t : List UInt8) (hl : 32 ≤ t.length) (ha : asc (t.take 32)) : ∀ f c, c ≤ 32 → 32 - c ≤ f → Pl.cutGo f t c = 32
  | 0, c, h, hf => by unfold Pl.cutGo; omega
  | f + 1, c, h, hf => by
    unfold Pl.cutGo
    by_cases hc : c = 32
    · have hw := Lib.decodeL_width (t.drop c)
      split
      · rw [if_pos (by omega)]; exact hc
      · exact hc
    · have hlt : c < t.length := by omega
      have hb : (t[c]'hlt).toNat < 128 := by
        apply ha
        have : (t.take 32)[c]'(by rw [List.length_take]; omega) = t[c]'hlt := List.getElem_take
        rw [← this]
        exact List.getElem_mem _
      rw [List.drop_eq_getElem_cons hlt, full_asc _ _ hb, if_pos rfl, Lib.decodeL_ascii _ _ hb, if_neg (by omega)]
      exact cutGo_asc t hl ha f (c + 1) (by omega) (by omega)
theorem cutOf_asc (t : List UInt8) (hl : 32 ≤ t.length) (ha : asc (t.take 32)) : Pl.cutOf t = 32 := cutGo_asc t hl ha 33 0 (by omega) (by omega)

/-- What the law's own loop finds. -/
def eOf (t : List UInt8) : Nat := if Pl.firstEnd t < 33 then Pl.firstEnd t else t.length
def nOf (t : List UInt8) : Nat := if 32 < eOf t then 32 else if eOf t = 0 ∧ 0 < t.length then 1 else eOf t
def mOf (t : List UInt8) : Bool := decide (32 < eOf t)
theorem nOf_le (t : List UInt8) : nOf t ≤ t.length ∧ nOf t ≤ 32 := by
  have := Pl.firstEnd_le t
  unfold nOf eOf
  split
  · split <;> first | omega | (split <;> omega)
  · split <;> first | omega | (split <;> omega)
def tailOf (m : Bool) : List Int := if m then [34, 46, 46, 46] else [34]
theorem exS_want (T : Lib.PrintTabs) (t : List UInt8) (ha : asc (t.take (nOf t))) : exS T (t.take 33) = strOfNums (34 :: (escs T (t.take (nOf t)) ++ tailOf (mOf t))) := by
  have hle := Pl.firstEnd_le t
  have hl33 : (t.take 33).length = min 33 t.length := List.length_take
  by_cases h1 : Pl.firstEnd t < 33 ∧ Pl.firstEnd t < t.length
  · have e : Pl.firstEnd (t.take 33) = Pl.firstEnd t := Pl.firstEnd_at (by rw [hl33]; omega) (fun j hj hjk => by
      rw [List.getElem_take]; exact Pl.not_end_before _ hjk) (by rw [List.getElem_take]; exact Pl.end_at_first h1.2)
    have e1 : eOf t = Pl.firstEnd t := if_pos h1.1
    have e2 : mOf t = false := decide_eq_false (by rw [e1]; omega)
    have e3 : nOf t = max (Pl.firstEnd t) 1 := by
      unfold nOf
      rw [e1, if_neg (by omega)]
      split <;> omega
    unfold exS
    rw [e, if_pos (by rw [hl33]; omega), e2, List.take_take]
    have e4 : min (max (Pl.firstEnd t) 1) 33 = nOf t := by rw [e3]; omega
    rw [e4]
    exact QS_asc T _ ha
  · have hno : ∀ j (h : j < t.length), j < 33 → Pl.endB t[j] = false := fun j h hj => Pl.not_end_before h (by omega)
    have e : Pl.firstEnd (t.take 33) = (t.take 33).length := Pl.firstEnd_none (fun j hj => by
      rw [List.getElem_take]; rw [hl33] at hj; exact hno j (by omega) (by omega))
    have e1 : eOf t = t.length := by unfold eOf; split <;> omega
    unfold exS
    rw [if_neg (by omega)]
    by_cases h2 : t.length ≤ 32
    · have e2 : mOf t = false := decide_eq_false (by rw [e1]; omega)
      have e3 : nOf t = t.length := by
        unfold nOf
        rw [e1, if_neg (by omega)]
        split <;> omega
      rw [if_pos (by rw [hl33]; omega), e2, List.take_of_length_le (by omega)]
      rw [e3, List.take_of_length_le (by omega)] at ha ⊢
      exact QS_asc T _ ha
    · have e2 : mOf t = true := decide_eq_true (by rw [e1]; omega)
      have e3 : nOf t = 32 := by
        unfold nOf
        rw [e1, if_pos (by omega)]
      rw [if_neg (by rw [hl33]; omega), e2]
      rw [e3] at ha ⊢
      have hc : Pl.cutOf (t.take 33) = 32 := cutOf_asc _ (by rw [hl33]; omega) (by rw [List.take_take]; exact ha)
      rw [hc, List.take_take]
      show QS T (t.take 32) ++ dots = _
      rw [QS_asc T _ ha]
      apply ByteArray.ext
      apply Array.ext'
      simp [strOfNums, dots, tailOf]
end Go.Proofs.Qxb6608766aDoor
