/-
  WALKS: pathTerm.
-/
import Derived.Test.Qxb6613464aFmtWalkC
namespace Go.Proofs.Qxb6613464aFmt
open Go.RowKit

/-- The array of a path's terms, filled up to k. -/
def Fill (w : World) (ad m k : Nat) (ts : List ByteArray) : Prop :=
  (∃ cur, w.heap[ad]? = some (.cells cur 31 (0, 0)) ∧ cur.size = m) ∧ ∀ j (h : j < ts.length), j < k → ∃ tb, tb ≠ ad ∧ w.cell? ⟨ad, j, none⟩ = some (.pointer (some ⟨tb, 0, none⟩)) ∧ NameAt w tb ts[j]
theorem Fill.lt {w : World} {ad m k : Nat} {ts : List ByteArray} (h : Fill w ad m k ts) : ad < w.heap.size := by
  obtain ⟨⟨cur, hc, _⟩, _⟩ := h
  exact (Array.getElem?_eq_some_iff.1 hc).1
theorem Fill.cell {w : World} {ad m k : Nat} {ts : List ByteArray} (h : Fill w ad m k ts) {j : Nat} (hj : j < m) : (∃ v, w.cell? ⟨ad, j, none⟩ = some v) ∧ w.frozen? ⟨ad, j, none⟩ = false := by
  obtain ⟨⟨cur, hc, hs⟩, _⟩ := h
  constructor
  · refine ⟨cur[j]'(by omega), ?_⟩
    unfold World.cell?
    rw [hc]
    simp
  · unfold World.frozen?
    rw [hc]
    simp
theorem Fill.grow {w w' : World} {ad m k : Nat} {ts : List ByteArray} (h : Fill w ad m k ts) (hb : Below w.heap.size w w') : Fill w' ad m k ts := by
  have hl := h.lt
  obtain ⟨⟨cur, hc, hs⟩, hn⟩ := h
  refine ⟨⟨cur, (hb.block ad hl).trans hc, hs⟩, fun j hj hk => ?_⟩
  obtain ⟨tb, hne, hcell, hat⟩ := hn j hj hk
  exact ⟨tb, hne, (hb.cell (p := ⟨ad, j, none⟩) hl).trans hcell, hat.below hat.1 hb⟩
theorem Fill.set {w : World} {ad m k : Nat} {ts : List ByteArray} {tb : Nat} (h : Fill w ad m k ts) (hk : k < m) (hkt : k < ts.length) (hne : tb ≠ ad) (hat : NameAt w tb ts[k]) :
    Fill (w.setCell ⟨ad, k, none⟩ (.pointer (some ⟨tb, 0, none⟩))) ad m (k + 1) ts := by
  obtain ⟨v, hv⟩ := (h.cell hk).1
  obtain ⟨⟨cur, hc, hs⟩, hn⟩ := h
  have hothers : ∀ b, b ≠ ad → (w.setCell ⟨ad, k, none⟩ (.pointer (some ⟨tb, 0, none⟩))).heap[b]? = w.heap[b]? := fun b hb => heap_setCell_other w _ b _ hb
  have hsz : (w.setCell ⟨ad, k, none⟩ (.pointer (some ⟨tb, 0, none⟩))).heap.size = w.heap.size := by simp [World.setCell]
  refine ⟨⟨_, heap_setCell_same w ad k cur 31 _ hc, by simpa using hs⟩, fun j hj hjk => ?_⟩
  by_cases e : j = k
  · subst e
    exact ⟨tb, hne, World.cell?_setCell_same _ _ _ hv, hat.same (Nat.le_of_eq hsz.symm) (hothers tb hne)⟩
  · obtain ⟨tb', hne', hcell, hat'⟩ := hn j hj (by omega)
    refine ⟨tb', hne', ?_, hat'.same (Nat.le_of_eq hsz.symm) (hothers tb' hne')⟩
    rw [World.cell?_setCell_other _ _ _ _ (by simp)]
    exact hcell
/-- The term that holds a path. -/
def TermB (w : World) (T ad m : Nat) : Prop := T < w.heap.size ∧ T ≠ ad ∧ w.cell? ⟨T, 3, none⟩ = some (.int .i64 3) ∧ w.cell? ⟨T, 7, none⟩ = some (.slice (some ⟨ad, 0, none⟩) m m)
theorem TermB.same {w w' : World} {T ad m : Nat} (h : TermB w T ad m) (hs : w.heap.size ≤ w'.heap.size) (hb : w'.heap[T]? = w.heap[T]?) : TermB w' T ad m := by
  obtain ⟨h1, h2, h3, h4⟩ := h
  exact ⟨Nat.lt_of_lt_of_le h1 hs, h2, (World.cell?_of_block hb).trans h3, (World.cell?_of_block hb).trans h4⟩
/-- A path half made. -/
def PS (w0 w : World) (T ad m k : Nat) (ts : List ByteArray) : Prop := TermB w T ad m ∧ Fill w ad m k ts ∧ Below w0.heap.size w0 w ∧ w0.heap.size ≤ ad
theorem PS.step {w0 w : World} {T ad m k : Nat} {ts : List ByteArray} (h : PS w0 w T ad m k ts) (hk : k < m) (hkt : k < ts.length) (o : Obj) :
    PS w0 (((w.alloc o).alloc (.cells (term0 0 ts[k]) 69)).setCell ⟨ad, k, none⟩ (.pointer (some ⟨w.heap.size + 1, 0, none⟩))) T ad m (k + 1) ts := by
  obtain ⟨h1, h2, h3, h4⟩ := h
  have hs1 : (w.alloc o).heap.size = w.heap.size + 1 := by simp
  have hb1 : Below w.heap.size w ((w.alloc o).alloc (.cells (term0 0 ts[k]) 69)) := ((Below.refl _ _).alloc (Nat.le_refl _) o).alloc (by rw [hs1]; omega) _
  have hlt := h2.lt
  have hat : NameAt ((w.alloc o).alloc (.cells (term0 0 ts[k]) 69)) (w.heap.size + 1) ts[k] := by
    have := nameAt_new (w.alloc o) ts[k]
    rwa [hs1] at this
  have hb3 : Below w0.heap.size w0 ((w.alloc o).alloc (.cells (term0 0 ts[k]) 69)) := below_of h3 hb1
  refine ⟨(h1.same hb1.size (hb1.block T h1.1)).same (by simp [World.setCell]) (heap_setCell_other _ _ _ _ h1.2.1), (h2.grow hb1).set hk hkt (by omega) hat, hb3.setCell h4 _, h4⟩
/-- A path. -/
def PathAt (w : World) (T : Nat) (ts : List ByteArray) : Prop := (∃ x, ts = [x] ∧ NameAt w T x) ∨ ∃ ad, TermB w T ad ts.length ∧ Fill w ad ts.length ts.length ts
def SaysPath (ts : List ByteArray) (w' : World) (e : Ending) : Prop := ∃ T, e = .returned (.pointer (some ⟨T, 0, none⟩)) ∧ PathAt w' T ts
/-- "parent" -/
def par : ByteArray := ⟨#[112, 97, 114, 101, 110, 116]⟩

theorem PS.start (w : World) (m : Nat) (o : Obj) (ts : List ByteArray) :
    PS w ((((w.alloc o).alloc (.cells (term0 3 ⟨#[]⟩) 69)).setCell ⟨w.heap.size + 1, 7, none⟩ (.slice (some ⟨w.heap.size + 1 + 1, 0, none⟩) m m)).alloc (.cells (madeCells #[.pointer none] m) 31)) (w.heap.size + 1) (w.heap.size + 1 + 1) m 0 ts := by
  have hs1 : (w.alloc o).heap.size = w.heap.size + 1 := by simp
  have hs2 : ((w.alloc o).alloc (.cells (term0 3 ⟨#[]⟩) 69)).heap.size = w.heap.size + 1 + 1 := by simp
  have hc : ∀ k, ((w.alloc o).alloc (.cells (term0 3 ⟨#[]⟩) 69)).cell? ⟨w.heap.size + 1, k, none⟩ = (term0 3 ⟨#[]⟩)[k]? := fun k => by
    have := new_cell (w.alloc o) (term0 3 ⟨#[]⟩) 69 k
    rwa [hs1] at this
  have hb1 : Below w.heap.size w ((w.alloc o).alloc (.cells (term0 3 ⟨#[]⟩) 69)) := ((Below.refl _ _).alloc (Nat.le_refl _) o).alloc (by rw [hs1]; omega) _
  generalize hw1 : (w.alloc o).alloc (.cells (term0 3 ⟨#[]⟩) 69) = w1 at hs2 hc hb1 ⊢
  have hb2 : Below w.heap.size w (w1.setCell ⟨w.heap.size + 1, 7, none⟩ (.slice (some ⟨w.heap.size + 1 + 1, 0, none⟩) m m)) := hb1.setCell (Nat.le_succ _) _
  have h3 : (w1.setCell ⟨w.heap.size + 1, 7, none⟩ (.slice (some ⟨w.heap.size + 1 + 1, 0, none⟩) m m)).cell? ⟨w.heap.size + 1, 3, none⟩ = some (.int .i64 3) := by
    rw [World.cell?_setCell_other _ _ _ _ (by simp)]; exact (hc 3).trans rfl
  have h7 : (w1.setCell ⟨w.heap.size + 1, 7, none⟩ (.slice (some ⟨w.heap.size + 1 + 1, 0, none⟩) m m)).cell? ⟨w.heap.size + 1, 7, none⟩ = some (.slice (some ⟨w.heap.size + 1 + 1, 0, none⟩) m m) :=
    World.cell?_setCell_same _ _ _ ((hc 7).trans rfl)
  have hs3 : (w1.setCell ⟨w.heap.size + 1, 7, none⟩ (.slice (some ⟨w.heap.size + 1 + 1, 0, none⟩) m m)).heap.size = w.heap.size + 1 + 1 := by simp [World.setCell, hs2]
  generalize hw2 : w1.setCell ⟨w.heap.size + 1, 7, none⟩ (.slice (some ⟨w.heap.size + 1 + 1, 0, none⟩) m m) = w2 at hb2 h3 h7 hs3 ⊢
  have hbl : ∀ k, k < w2.heap.size → (w2.alloc (.cells (madeCells #[.pointer none] m) 31)).heap[k]? = w2.heap[k]? := fun k hk => Below.heap_alloc w2 _ k hk
  refine ⟨⟨by simp [hs3], by omega, ?_, ?_⟩, ⟨⟨madeCells #[.pointer none] m, ?_, size_madeCells _ _⟩, fun j _ hj => by omega⟩, hb2.alloc (by omega) _, by omega⟩
  · exact (World.cell?_of_block (hbl (w.heap.size + 1) (by omega))).trans h3
  · exact (World.cell?_of_block (hbl (w.heap.size + 1) (by omega))).trans h7
  · rw [← hs3]; exact heap_alloc_new w2 _

set_option maxHeartbeats 400000 in
theorem path_one (b off c : Nat) (x : ByteArray) (w : World) (h : w.cell? ⟨b, off, none⟩ = some (.string x)) :
    Calls Tryf.prog 8 #[.slice (some ⟨b, off, none⟩) 1 c, .bool false] w fun e w' => SaysPath [x] w' e ∧ Below w.heap.size w w' := by
  have HT : Hid (Calls Tryf.prog 13 #[pos0, .int .i64 0, .string x, .int .u64 0, .string ⟨#[]⟩] w fun e w' => e = .returned (.pointer (some ⟨w.heap.size + 1, 0, none⟩)) ∧ w' = (w.alloc (.cells #[.string ⟨#[]⟩, .int .i64 0, .int .i64 0] 61)).alloc (.cells (term0 0 x) 69)) := newTerm 0 x w
  go_enter Tryf.func8, Tryf.ntmps8
  go_wp2_with fail
  refine HT.out.mono ?_
  rintro e w1 ⟨rfl, rfl⟩
  clear HT
  have hs1 : (w.alloc (.cells #[.string ⟨#[]⟩, .int .i64 0, .int .i64 0] 61)).heap.size = w.heap.size + 1 := by simp
  have hat : NameAt ((w.alloc (.cells #[.string ⟨#[]⟩, .int .i64 0, .int .i64 0] 61)).alloc (.cells (term0 0 x) 69)) (w.heap.size + 1) x := by
    have := nameAt_new (w.alloc (.cells #[.string ⟨#[]⟩, .int .i64 0, .int .i64 0] 61)) x
    rwa [hs1] at this
  have hb1 : Below w.heap.size w ((w.alloc (.cells #[.string ⟨#[]⟩, .int .i64 0, .int .i64 0] 61)).alloc (.cells (term0 0 x) 69)) := ((Below.refl _ _).alloc (Nat.le_refl _) _).alloc (by rw [hs1]; omega) _
  have HAT : Hid (NameAt ((w.alloc (.cells #[.string ⟨#[]⟩, .int .i64 0, .int .i64 0] 61)).alloc (.cells (term0 0 x) 69)) (w.heap.size + 1) x) := hat
  clear hat
  go_wp2
  go_ret
  exact ⟨⟨_, rfl, .inl ⟨x, rfl, HAT.out⟩⟩, hb1⟩
end Go.Proofs.Qxb6613464aFmt
