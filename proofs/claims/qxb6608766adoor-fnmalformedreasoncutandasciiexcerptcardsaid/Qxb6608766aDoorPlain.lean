/-
  PLAIN: no run of the model in this text. Which bytes end an excerpt; the first of them; where a text of 33 bytes is cut.
-/
import Derived.Lib.MapLaws
namespace Go.Proofs.Qxb6608766aDoor.Pl
open Go.Lib

def endB (b : UInt8) : Bool := b.toNat == 32 || b.toNat == 9 || b.toNat == 10 || b.toNat == 11 || b.toNat == 12 || b.toNat == 13 || b.toNat == 35
/-- The place of the first byte that ends an excerpt; the length where there is none. -/
def firstEnd (t : List UInt8) : Nat := t.findIdx endB
theorem firstEnd_le (t : List UInt8) : firstEnd t ≤ t.length := List.findIdx_le_length
theorem endB_high (b : UInt8) (h : 128 ≤ b.toNat) : endB b = false := by
  unfold endB
  simp
  omega
/-- The first place among those from k on, none ahead of k being an end. -/
theorem firstEnd_at {t : List UInt8} {k : Nat} (hk : k < t.length) (hno : ∀ j (h : j < t.length), j < k → endB t[j] = false) (he : endB t[k] = true) : firstEnd t = k := by
  unfold firstEnd
  rw [List.findIdx_eq hk]
  exact ⟨he, fun j hj => hno j (by omega) hj⟩
theorem firstEnd_none {t : List UInt8} (hno : ∀ j (h : j < t.length), endB t[j] = false) : firstEnd t = t.length := by
  unfold firstEnd
  rw [List.findIdx_eq_length]
  intro x hx
  obtain ⟨j, hj, rfl⟩ := List.getElem_of_mem hx
  exact hno j hj
theorem not_end_before {t : List UInt8} {j : Nat} (h : j < t.length) (hj : j < firstEnd t) : endB t[j] = false := by
  have := List.not_of_lt_findIdx (p := endB) (xs := t) hj
  simpa using this
theorem end_at_first {t : List UInt8} (h : firstEnd t < t.length) : endB (t[firstEnd t]'h) = true := List.findIdx_getElem (w := h)

/-- utf8.FullRune. -/
def fullN (n b0 b1 b2 : Nat) : Bool :=
  if n = 0 then false else if firstT b0 % 8 ≤ n then true
  else if 1 < n ∧ (b1 < accLo (firstT b0 / 16) ∨ accHi (firstT b0 / 16) < b1) then true
  else if 2 < n ∧ (b2 < 128 ∨ 191 < b2) then true else false
def fullL (l : List UInt8) : Bool := fullN l.length (l.getD 0 0).toNat (l.getD 1 0).toNat (l.getD 2 0).toNat

def cutGo : Nat → List UInt8 → Nat → Nat
  | 0, _, c => c
  | f + 1, t, c => if fullL (t.drop c) = true then (if 32 < c + (decodeL (t.drop c)).2 then c else cutGo f t (c + (decodeL (t.drop c)).2)) else c
def cutOf (t : List UInt8) : Nat := cutGo 33 t 0
theorem cutGo_le (t : List UInt8) : ∀ f c, c ≤ 32 → cutGo f t c ≤ 32
  | 0, c, h => h
  | f + 1, c, h => by
    unfold cutGo
    split
    · split
      · exact h
      · exact cutGo_le t f _ (by omega)
    · exact h
theorem cutOf_le (t : List UInt8) : cutOf t ≤ 32 := cutGo_le t 33 0 (by omega)
/-- A step of the cut. -/
theorem cutGo_fuel (t : List UInt8) : ∀ f f' c, 32 < c + f → 32 < c + f' → cutGo f t c = cutGo f' t c := by
  intro f
  induction f with
  | zero =>
    intro f' c h h'
    cases f' with
    | zero => rfl
    | succ f' =>
      unfold cutGo
      have := decodeL_width (t.drop c)
      split
      · rw [if_pos (by omega)]
      · rfl
  | succ f ih =>
    intro f' c h h'
    have hw := decodeL_width (t.drop c)
    cases f' with
    | zero =>
      unfold cutGo
      split
      · rw [if_pos (by omega)]
      · rfl
    | succ f' =>
      unfold cutGo
      split
      · split
        · rfl
        · exact ih f' _ (by omega) (by omega)
      · rfl
end Go.Proofs.Qxb6608766aDoor.Pl
