/-
  The two maps of the law: what a look-up and a store do, as facts of a world.
-/
import Derived.Test.Qxb6608748aFmtWalkF
namespace Go.Proofs.Qxb6608748aFmt
open Go.RowKit
open Go.WideMaps
open Go.Maps (Keyed string_keyed)

theorem isKey (x : List UInt8) : WideAt.IsKeyLit (.string x) := trivial
theorem plainElem_bool_inv {P : Program} {e : TypeId} (he : P.underlying e = some .bool) {v : Value} {z : DataW Unit × List MemPlace} (h : plainElem P e v = some z) : ∃ a, v = .bool a ∧ z = (.lit (.bool a), []) := by
  unfold plainElem at h
  rw [he] at h
  cases v <;> simp at h
  subst h
  exact ⟨_, rfl, rfl⟩

/-- The map at block B holds true at just the names of L. -/
def SeenAt (w : World) (B n : Nat) (L : List (List UInt8)) : Prop :=
  ∃ D : DataW Unit, w.ownsMap Tryf.prog 9 (plainElem Tryf.prog 4) B n D ∧ ∀ x, D.atKey (.string x) (.lit (.bool false)) = .lit (.bool (decide (x ∈ L)))

theorem SeenAt.below {w w' : World} {B n : Nat} {L : List (List UInt8)} (h : SeenAt w B n L) (hb : Below w.heap.size w w') : SeenAt w' B n L := by
  obtain ⟨D, hown, hD⟩ := h
  exact ⟨D, hown.kept (below_grown hb) (by simp), hD⟩
theorem SeenAt.lt {w : World} {B n : Nat} {L : List (List UInt8)} (h : SeenAt w B n L) : B < w.heap.size := by
  obtain ⟨D, hown, hD⟩ := h; exact hown.lt
theorem seen_made (w : World) : SeenAt (w.alloc (.map #[] 0)) w.heap.size 0 [] :=
  ⟨_, World.ownsMap_made w Tryf.prog 9 _, fun _ => by simp [DataW.atKey]⟩
theorem SeenAt.look {w : World} {B n : Nat} {L : List (List UInt8)} (h : SeenAt w B n L) {x : List UInt8} (hx : x.length ≤ maxLen) {b : Bool} (hb : decide (x ∈ L) = b) :
    (Instr.lookup 24 (.map (some B)) (.string ⟨x.toArray⟩) false).run Tryf.prog w = .ok (.bool b) w := by
  obtain ⟨D, hown, hD⟩ := h
  obtain ⟨v, ps, hrun, hv⟩ := hown.lookup law9 Tryf.underlying24 (zero4 w) (plainElem_bool Tryf.underlying4 false) (key_of x hx)
  rw [hD x] at hv
  obtain ⟨c, rfl, hc⟩ := plainElem_bool_inv Tryf.underlying4 hv
  simp only [Prod.mk.injEq, DataW.lit.injEq, Lit.bool.injEq] at hc
  rw [hrun, ← hc.1, hb]
theorem SeenAt.put {w : World} {B n : Nat} {L : List (List UInt8)} (h : SeenAt w B n L) (hn : n < maxLen) {x : List UInt8} (hx : x.length ≤ maxLen) :
    ∃ w', (Instr.mapUpdate 24 (.map (some B)) (.string ⟨x.toArray⟩) (.bool true)).run Tryf.prog w = .ok () w' ∧ SeenAt w' B (n + 1) (L ++ [x]) ∧ w.grownBy w' (some B) := by
  obtain ⟨D, hown, hD⟩ := h
  obtain ⟨w', hrun, hown', hg⟩ := hown.update law9 Tryf.underlying24 hn (key_of x hx) (plainElem_bool Tryf.underlying4 true)
  refine ⟨w', hrun, ⟨_, hown', fun y => ?_⟩, hg⟩
  by_cases e : y = x
  · subst e
    rw [Maps.atKey_put_same hown.isMap (isKey _)]
    simp
  · rw [Maps.atKey_put_other (by simpa using e), hD y]
    simp [e]

theorem idx_made (w : World) : IdxAt (w.alloc (.map #[] 0)) w.heap.size 0 [] :=
  ⟨_, World.ownsMap_made w Tryf.prog 9 _, fun _ _ h => by simp at h⟩
theorem IdxAt.put {w : World} {B n : Nat} {L : List (List UInt8)} (h : IdxAt w B n L) (hn : n < maxLen) {x : List UInt8} (hx : x.length ≤ maxLen) (hnew : x ∉ L) {i : Nat} (hi : i = L.length) (hL : L.length < maxLen) :
    ∃ w', (Instr.mapUpdate 28 (.map (some B)) (.string ⟨x.toArray⟩) (.int .i64 i)).run Tryf.prog w = .ok () w' ∧ IdxAt w' B (n + 1) (L ++ [x]) ∧ w.grownBy w' (some B) := by
  subst hi
  obtain ⟨D, hown, hD⟩ := h
  unfold maxLen at hL
  obtain ⟨w', hrun, hown', hg⟩ := hown.update law9 Tryf.underlying28 hn (key_of x hx) (plainElem_int (a := (L.length : Int)) Tryf.underlying3 (WalkArith.wf_i64 (by omega)))
  refine ⟨w', hrun, ⟨_, hown', fun j y hj => ?_⟩, hg⟩
  by_cases hjl : j < L.length
  · rw [List.getElem?_append_left hjl] at hj
    have hne : y ≠ x := fun e => hnew (e ▸ List.mem_of_getElem? hj)
    rw [Maps.atKey_put_other (by simpa using hne), Maps.has_put_other (by simpa using hne)]
    exact hD j y hj
  · have hj' := (List.getElem?_eq_some_iff.1 hj).1
    simp at hj'
    have e : j = L.length := by omega
    subst e
    simp at hj
    subst hj
    exact ⟨Maps.atKey_put_same hown.isMap (isKey _) _ _, Maps.has_put_same hown.isMap (isKey _) _⟩
end Go.Proofs.Qxb6608748aFmt
