/-
  PLAIN: no run of the model in this text. Case folding of ASCII letters byte by byte and rune by rune; pieces of valid UTF-8.
-/
import Derived.Test.Qxb6608748aFmtBytes
import Derived.Lib.MapLaws
namespace Go.Proofs.Qxb6608748aFmt.Pl
open Go.Lib


theorem fold_flip_fin : ∀ n : Fin 256, foldB (flipB (UInt8.ofNat n.val)) = foldB (UInt8.ofNat n.val) := by decide +kernel
theorem byte_eq (b : UInt8) : b = UInt8.ofNat b.toNat := by simp
theorem fold_flip (b : UInt8) : foldB (flipB b) = foldB b := by
  have h := fold_flip_fin ⟨b.toNat, b.toNat_lt⟩
  rw [byte_eq b]; exact h
theorem flip_low_fin : ∀ n : Fin 256, n.val < 128 → (flipB (UInt8.ofNat n.val)).toNat < 128 ∧ encodeRune (foldR ((flipB (UInt8.ofNat n.val)).toNat : Int)) = [foldB (UInt8.ofNat n.val)] ∧ 0 ≤ foldR ((flipB (UInt8.ofNat n.val)).toNat : Int) := by decide +kernel
theorem flip_low (b : UInt8) (h : b.toNat < 128) : (flipB b).toNat < 128 ∧ encodeRune (foldR ((flipB b).toNat : Int)) = [foldB b] ∧ 0 ≤ foldR ((flipB b).toNat : Int) := by
  have h := flip_low_fin ⟨b.toNat, b.toNat_lt⟩ h
  rw [byte_eq b]; exact h
theorem flip_high (b : UInt8) (h : 128 ≤ b.toNat) : flipB b = b := by
  unfold flipB; rw [if_neg (by omega), if_neg (by omega)]
theorem fold_high (b : UInt8) (h : 128 ≤ b.toNat) : foldB b = b := by
  unfold foldB; rw [if_neg (by omega)]

/-- A piece: one ASCII byte, or the bytes of one rune beyond ASCII. -/
def Piece (c : List UInt8) : Prop :=
  (∃ a : UInt8, c = [a] ∧ a.toNat < 128) ∨
  (c ≠ [] ∧ (∀ b ∈ c, 128 ≤ b.toNat) ∧ ∀ t, (decodeL (c ++ t)).2 = c.length ∧ 128 ≤ (decodeL (c ++ t)).1 ∧ ¬ ((decodeL (c ++ t)).1 = 65533 ∧ (decodeL (c ++ t)).2 = 1))
def Good (l : List UInt8) : Prop := ∃ cs : List (List UInt8), l = cs.flatten ∧ ∀ c ∈ cs, Piece c

theorem good_nil : Good [] := ⟨[], rfl, fun c h => by cases h⟩
theorem good_snoc {l c : List UInt8} (h : Good l) (hc : Piece c) : Good (l ++ c) := by
  obtain ⟨cs, rfl, hp⟩ := h
  refine ⟨cs ++ [c], by simp, fun d hd => ?_⟩
  rcases List.mem_append.1 hd with hd | hd
  · exact hp d hd
  · rw [List.mem_singleton.1 hd]; exact hc

theorem map_high (f : UInt8 → UInt8) (hf : ∀ b : UInt8, 128 ≤ b.toNat → f b = b) : ∀ c : List UInt8, (∀ b ∈ c, 128 ≤ b.toNat) → c.map f = c
  | [], _ => rfl
  | b :: t, h => by
    rw [List.map_cons, hf b (h b (List.mem_cons_self ..)), map_high f hf t (fun x hx => h x (List.mem_cons_of_mem _ hx))]

theorem decode_low (a : UInt8) (t : List UInt8) (h : a.toNat < 128) : decodeL (a :: t) = (a.toNat, 1) := by
  rw [decodeL_N]
  simp only [List.getD_cons_zero]
  unfold decodeN
  rw [if_pos h]

/-- **The fold of a flipped good string, rune by rune, is the fold of the string, byte by byte.** -/
theorem map_good : ∀ cs : List (List UInt8), (∀ c ∈ cs, Piece c) → mapD foldR (cs.flatten.map flipB) = cs.flatten.map foldB
  | [], _ => rfl
  | c :: cs, h => by
    have ih := map_good cs (fun d hd => h d (List.mem_cons_of_mem _ hd))
    rcases h c (List.mem_cons_self ..) with ⟨a, rfl, ha⟩ | ⟨hne, hh, hd⟩
    · obtain ⟨h1, h2, h3⟩ := flip_low a ha
      simp only [List.flatten_cons, List.cons_append, List.nil_append, List.map_cons]
      rw [mapD_step _ _ (by simp), decode_low _ _ h1]
      simp only [List.drop_one, List.tail_cons]
      rw [if_pos h3, h2, ih]
      rfl
    · simp only [List.flatten_cons, List.map_append]
      rw [map_high flipB flip_high c hh, map_high foldB fold_high c hh]
      obtain ⟨d1, d2, d3⟩ := hd (cs.flatten.map flipB)
      have hf : foldR ((decodeL (c ++ cs.flatten.map flipB)).1 : Int) = ((decodeL (c ++ cs.flatten.map flipB)).1 : Int) := by
        unfold foldR; rw [if_neg (by omega)]
      rw [mapD_same foldR _ (by simp [hne]) hf d3, d1]
      rw [List.take_left, List.drop_left, ih]

theorem fold_good {l : List UInt8} (h : Good l) : mapD foldR (l.map flipB) = l.map foldB := by
  obtain ⟨cs, rfl, hp⟩ := h
  exact map_good cs hp

theorem piece1 (a : UInt8) (h : a.toNat < 128) : Piece [a] := Or.inl ⟨a, rfl, h⟩
theorem piece2 (a b : UInt8) (h : 194 ≤ a.toNat ∧ a.toNat ≤ 223) (hb : 128 ≤ b.toNat ∧ b.toNat ≤ 191) : Piece [a, b] := by
  refine Or.inr ⟨by simp, fun x hx => ?_, fun t => ?_⟩
  · simp only [List.mem_cons, List.mem_nil_iff, or_false] at hx
    rcases hx with rfl | rfl <;> omega
  · rw [decodeL_N]
    have e : decodeN (([a, b] ++ t).length) (([a, b] ++ t).getD 0 0).toNat (([a, b] ++ t).getD 1 0).toNat (([a, b] ++ t).getD 2 0).toNat (([a, b] ++ t).getD 3 0).toNat = (a.toNat % 32 * 64 + b.toNat % 64, 2) := by
      simp only [List.cons_append, List.nil_append, List.getD_cons_zero, List.getD_cons_succ, List.length_cons]
      unfold decodeN
      rw [if_neg (by omega), if_pos (by omega), if_pos (by omega)]
    rw [e]
    exact ⟨rfl, by show 128 ≤ a.toNat % 32 * 64 + b.toNat % 64; omega, by simp⟩
theorem piece3 (a b c : UInt8) (h : 224 ≤ a.toNat ∧ a.toNat ≤ 239) (hb : 128 ≤ b.toNat ∧ b.toNat ≤ 191) (h0 : a.toNat = 224 → 160 ≤ b.toNat) (h1 : a.toNat = 237 → b.toNat ≤ 159) (hc : 128 ≤ c.toNat ∧ c.toNat ≤ 191) : Piece [a, b, c] := by
  refine Or.inr ⟨by simp, fun x hx => ?_, fun t => ?_⟩
  · simp only [List.mem_cons, List.mem_nil_iff, or_false] at hx
    rcases hx with rfl | rfl | rfl <;> omega
  · rw [decodeL_N]
    have e : decodeN (([a, b, c] ++ t).length) (([a, b, c] ++ t).getD 0 0).toNat (([a, b, c] ++ t).getD 1 0).toNat (([a, b, c] ++ t).getD 2 0).toNat (([a, b, c] ++ t).getD 3 0).toNat = (a.toNat % 16 * 4096 + b.toNat % 64 * 64 + c.toNat % 64, 3) := by
      simp only [List.cons_append, List.nil_append, List.getD_cons_zero, List.getD_cons_succ, List.length_cons]
      unfold decodeN
      rw [if_neg (by omega), if_neg (by omega), if_pos (by omega), if_pos (by omega)]
    rw [e]
    exact ⟨rfl, by show 128 ≤ a.toNat % 16 * 4096 + b.toNat % 64 * 64 + c.toNat % 64; omega, by simp⟩
theorem piece4 (a b c d : UInt8) (h : 240 ≤ a.toNat ∧ a.toNat ≤ 244) (hb : 128 ≤ b.toNat ∧ b.toNat ≤ 191) (h0 : a.toNat = 240 → 144 ≤ b.toNat) (h1 : a.toNat = 244 → b.toNat ≤ 143) (hc : 128 ≤ c.toNat ∧ c.toNat ≤ 191) (hd : 128 ≤ d.toNat ∧ d.toNat ≤ 191) : Piece [a, b, c, d] := by
  refine Or.inr ⟨by simp, fun x hx => ?_, fun t => ?_⟩
  · simp only [List.mem_cons, List.mem_nil_iff, or_false] at hx
    rcases hx with rfl | rfl | rfl | rfl <;> omega
  · rw [decodeL_N]
    have e : decodeN (([a, b, c, d] ++ t).length) (([a, b, c, d] ++ t).getD 0 0).toNat (([a, b, c, d] ++ t).getD 1 0).toNat (([a, b, c, d] ++ t).getD 2 0).toNat (([a, b, c, d] ++ t).getD 3 0).toNat = (a.toNat % 8 * 262144 + b.toNat % 64 * 4096 + c.toNat % 64 * 64 + d.toNat % 64, 4) := by
      simp only [List.cons_append, List.nil_append, List.getD_cons_zero, List.getD_cons_succ, List.length_cons]
      unfold decodeN
      rw [if_neg (by omega), if_neg (by omega), if_neg (by omega), if_pos (by omega), if_pos (by omega)]
    rw [e]
    exact ⟨rfl, by show 128 ≤ a.toNat % 8 * 262144 + b.toNat % 64 * 4096 + c.toNat % 64 * 64 + d.toNat % 64; omega, by simp⟩

end Go.Proofs.Qxb6608748aFmt.Pl
