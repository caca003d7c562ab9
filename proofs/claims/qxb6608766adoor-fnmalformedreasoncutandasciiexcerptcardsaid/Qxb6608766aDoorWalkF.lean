/-
  WALKS: FullRune, DecodeRune, bytes.IndexFunc with endsExcerpt, at the bytes of a list.
-/
import Derived.Test.Qxb6608766aDoorWalkE
import Derived.Test.Qxb6608766aDoorShelf
namespace Go.Proofs.Qxb6608766aDoor
open Go.RowKit

theorem getD_at (t : List UInt8) (j : Nat) (h : j < t.length) : t.getD j 0 = t[j] := by
  rw [List.getD, List.getElem?_eq_getElem h]; rfl

theorem full_any (B off cap : Nat) (t : List UInt8) (w : World) (hpos : 0 < t.length) (hl : t.length ≤ 1048576) (hB : B < w.heap.size) (hc : BytesOff w B off t) (hT : Lib.Utf8Tabs 3 4 w) :
    Calls Tryd.prog 38 #[.slice (some ⟨B, off, none⟩) t.length cap] w fun e w' => e = .returned (.bool (Pl.fullL t)) ∧ Below w.heap.size w w' := by
  have h0 := hc 0 hpos
  have e0 := getD_at t 0 hpos
  obtain ⟨b0, hb0⟩ : ∃ b0 : Nat, b0 = t[0].toNat := ⟨_, rfl⟩
  have l0 : b0 < 256 := by have := t[0].toNat_lt; omega
  have hf := hT.1 b0 l0
  obtain ⟨X, hX⟩ : ∃ X : Nat, X = Lib.firstT b0 := ⟨_, rfl⟩
  have hn : nine X := by rw [hX]; exact Lib.firstT_cases b0
  have hi16 : X / 16 < 16 := by rcases hn with h | h | h | h | h | h | h | h | h <;> omega
  obtain ⟨hlo, hhi⟩ := hT.2 (X / 16) hi16
  rw [← hX] at hf
  rw [← hb0, Nat.add_zero] at h0
  have hful : Pl.fullL t = Pl.fullN t.length b0 (t.getD 1 0).toNat (t.getD 2 0).toNat := by unfold Pl.fullL; rw [e0, ← hb0]
  by_cases hle : X % 8 ≤ t.length
  · have : Pl.fullL t = true := by
      rw [hful]; unfold Pl.fullN; rw [if_neg (by omega), if_pos (by rw [← hX]; exact hle)]
    rw [this]
    exact full_yes B off t.length cap b0 X w hpos hl h0 l0 hf _ _ hlo hhi hn hle
  · have hlt : t.length < X % 8 := by omega
    have hstep : Pl.fullL t = (if 1 < t.length ∧ ((t.getD 1 0).toNat < Lib.accLo (X / 16) ∨ Lib.accHi (X / 16) < (t.getD 1 0).toNat) then true else if 2 < t.length ∧ ((t.getD 2 0).toNat < 128 ∨ 191 < (t.getD 2 0).toNat) then true else false) := by
      rw [hful]; unfold Pl.fullN; rw [if_neg (by omega), if_neg (by rw [← hX]; omega), ← hX]
    by_cases h1n : t.length ≤ 1
    · have : Pl.fullL t = false := by rw [hstep, if_neg (by omega), if_neg (by omega)]
      rw [this]
      exact full_short B off t.length cap b0 X w hpos hl h0 l0 hf _ _ hlo hhi hn hlt (by omega)
    · have h1 := hc 1 (by omega)
      have e1 := getD_at t 1 (by omega)
      rw [e1] at hstep
      by_cases hl1 : t[1].toNat < Lib.accLo (X / 16)
      · have : Pl.fullL t = true := by rw [hstep, if_pos (by omega)]
        rw [this]
        exact full_low B off t.length cap b0 X w hpos hl h0 l0 hf _ _ hlo hhi hn hB _ h1 hlt (by omega) (by omega)
      · by_cases hh1 : Lib.accHi (X / 16) < t[1].toNat
        · have : Pl.fullL t = true := by rw [hstep, if_pos (by omega)]
          rw [this]
          exact full_high B off t.length cap b0 X w hpos hl h0 l0 hf _ _ hlo hhi hn hB _ h1 hlt (by omega) (by omega) (by omega)
        · rw [if_neg (by omega)] at hstep
          by_cases h2n : t.length ≤ 2
          · have : Pl.fullL t = false := by rw [hstep, if_neg (by omega)]
            rw [this]
            exact full_two B off t.length cap b0 X w hpos hl h0 l0 hf _ _ hlo hhi hn hB _ h1 hlt (by omega) (by omega) (by omega) (by omega)
          · have h2 := hc 2 (by omega)
            have e2 := getD_at t 2 (by omega)
            rw [e2] at hstep
            by_cases hl2 : t[2].toNat < 128
            · have : Pl.fullL t = true := by rw [hstep, if_pos (by omega)]
              rw [this]
              exact full_three_low B off t.length cap b0 X w hpos hl h0 l0 hf _ _ hlo hhi hn hB _ h1 hlt _ h2 (by omega) (by omega) (by omega) (by omega) (by omega)
            · by_cases hh2 : 191 < t[2].toNat
              · have : Pl.fullL t = true := by rw [hstep, if_pos (by omega)]
                rw [this]
                exact full_three_high B off t.length cap b0 X w hpos hl h0 l0 hf _ _ hlo hhi hn hB _ h1 hlt _ h2 (by omega) (by omega) (by omega) (by omega) (by omega) (by omega)
              · have : Pl.fullL t = false := by rw [hstep, if_neg (by omega)]
                rw [this]
                exact full_three B off t.length cap b0 X w hpos hl h0 l0 hf _ _ hlo hhi hn hB _ h1 hlt _ h2 (by omega) (by omega) (by omega) (by omega) (by omega) (by omega)

theorem dec_any (B off cap : Nat) (t : List UInt8) (w : World) (hpos : 0 < t.length) (hc : BytesOff w B off t) (hT : Lib.Utf8Tabs 3 4 w) :
    Calls Tryd.prog 39 #[.slice (some ⟨B, off, none⟩) t.length cap] w fun e w' => e = .returned (.tuple #[.int .i32 (Lib.decodeL t).1, .int .i64 (Lib.decodeL t).2]) ∧ Below w.heap.size w w' := by
  have hsz : (⟨t.toArray⟩ : ByteArray).size = t.length := by simp [ByteArray.size]
  have hgo : Lib.decodeGo ⟨t.toArray⟩ = Lib.decodeL t := by
    unfold Lib.decodeGo Lib.decodeL
    rw [if_neg (by omega)]
  have := Tryd.utf8_DecodeRune ⟨t.toArray⟩ B off cap w hT (fun j hj => by
    have hj' : j < t.length := by omega
    rw [hc j hj']
    have e : (⟨t.toArray⟩ : ByteArray).get! j = t[j] := by
      show t.toArray[j]! = _
      rw [getElem!_pos t.toArray j (by simpa using hj')]
      simp
    rw [e])
  rwa [hsz, hgo] at this

theorem dec_ends (l : List UInt8) (hpos : 0 < l.length) :
    (endN ((Lib.decodeL l).1 : Int) = true → Pl.endB l[0] = true) ∧ (endN ((Lib.decodeL l).1 : Int) = false → ∀ j (h : j < l.length), j < (Lib.decodeL l).2 → Pl.endB l[j] = false) := by
  rw [Lib.decodeL_N]
  have e0 := getD_at l 0 hpos
  rw [e0]
  have hbig : ∀ r : Nat, 128 ≤ r → endN (r : Int) = false := fun r hr => decide_eq_false (by omega)
  by_cases hlow : l[0].toNat < 128
  · have e : Lib.decodeN l.length l[0].toNat (l.getD 1 0).toNat (l.getD 2 0).toNat (l.getD 3 0).toNat = (l[0].toNat, 1) := by
      unfold Lib.decodeN; rw [if_pos hlow]
    rw [e]
    refine ⟨fun h => by rw [← endN_endB]; exact h, fun h j hj hlt => ?_⟩
    have : j = 0 := by simp at hlt; exact hlt
    subst this
    rw [← endN_endB]; exact h
  · have hz : Pl.endB l[0] = false := Pl.endB_high _ (by omega)
    rcases Lib.decodeN_shape l.length l[0].toNat (l.getD 1 0).toNat (l.getD 2 0).toNat (l.getD 3 0).toNat with ⟨c, e⟩ | ⟨c1, c2, c3, cv, e⟩ | ⟨c1, c2, c3, c4, cv, cs, e⟩ | ⟨c1, c2, c3, c4, c5, cv, cw, e⟩ | e
    · omega
    · rw [e]
      refine ⟨(fun h => by rw [hbig _ cv] at h; cases h), fun _ j hj hlt => ?_⟩
      have hlt' : j < 2 := hlt
      rw [getD_at l 1 (by omega)] at c3
      rcases (by omega : j = 0 ∨ j = 1) with rfl | rfl
      · exact hz
      · exact Pl.endB_high _ (by omega)
    · rw [e]
      refine ⟨(fun h => by rw [hbig _ (by omega)] at h; cases h), fun _ j hj hlt => ?_⟩
      have hlt' : j < 3 := hlt
      rw [getD_at l 1 (by omega)] at c3
      rw [getD_at l 2 (by omega)] at c4
      rcases (by omega : j = 0 ∨ j = 1 ∨ j = 2) with rfl | rfl | rfl
      · exact hz
      · exact Pl.endB_high _ (by omega)
      · exact Pl.endB_high _ (by omega)
    · rw [e]
      refine ⟨(fun h => by rw [hbig _ (by omega)] at h; cases h), fun _ j hj hlt => ?_⟩
      have hlt' : j < 4 := hlt
      rw [getD_at l 1 (by omega)] at c3
      rw [getD_at l 2 (by omega)] at c4
      rw [getD_at l 3 (by omega)] at c5
      rcases (by omega : j = 0 ∨ j = 1 ∨ j = 2 ∨ j = 3) with rfl | rfl | rfl | rfl
      · exact hz
      · exact Pl.endB_high _ (by omega)
      · exact Pl.endB_high _ (by omega)
      · exact Pl.endB_high _ (by omega)
    · rw [e]
      refine ⟨(fun h => by rw [hbig _ (by omega)] at h; cases h), fun _ j hj hlt => ?_⟩
      have : j = 0 := by simp at hlt; exact hlt
      subst this
      exact hz
end Go.Proofs.Qxb6608766aDoor
