/-
  WALKS: pathSteps; what the loops of lenTarget carry.
-/
import Derived.Test.Qxb6613464aFmtPlain
import Derived.Test.Qxb6613464aFmtWalkD
import Derived.Laws.AppendOwn
import Derived.Deep.RegionLaw
namespace Go.Proofs.Qxb6613464aFmt
open Go.RowKit

/-- The terms of the names ts, in a row. -/
def StepsAt (w : World) (ad off : Nat) (ts : List ByteArray) : Prop := ∀ j (h : j < ts.length), ∃ tb, w.cell? ⟨ad, off + j, none⟩ = some (.pointer (some ⟨tb, 0, none⟩)) ∧ NameAt w tb ts[j]
theorem StepsAt.below {w w' : World} {ad off : Nat} {ts : List ByteArray} (h : StepsAt w ad off ts) (hl : ad < w.heap.size) (hb : Below w.heap.size w w') : StepsAt w' ad off ts := fun j hj => by
  obtain ⟨tb, h1, h2⟩ := h j hj
  exact ⟨tb, (hb.cell (p := ⟨ad, off + j, none⟩) hl).trans h1, h2.below h2.1 hb⟩
theorem StepsAt.drop {w : World} {ad off : Nat} {ts : List ByteArray} (h : StepsAt w ad off ts) (k : Nat) : StepsAt w ad (off + k) (ts.drop k) := fun j hj => by
  rw [List.length_drop] at hj
  rw [List.getElem_drop, Nat.add_assoc]
  exact h (k + j) (by omega)
def SaysSteps (ts : List ByteArray) (w' : World) (e : Ending) : Prop := ∃ ad, e = .returned (.slice (some ⟨ad, 0, none⟩) ts.length ts.length) ∧ ad < w'.heap.size ∧ StepsAt w' ad 0 ts
theorem steps_any (T : Nat) (ts : List ByteArray) (w : World) (h : PathAt w T ts) : Calls Tryf.prog 16 #[.pointer (some ⟨T, 0, none⟩)] w fun e w' => SaysSteps ts w' e ∧ Below w.heap.size w w' := by
  rcases h with ⟨x, rfl, hat⟩ | ⟨ad, ht, hf⟩
  · refine (steps_one T w hat.2.2.2.2.1).mono ?_
    rintro e w' ⟨he, hw'⟩
    have hb : Below w.heap.size w w' := by rw [hw']; exact (Below.refl _ _).alloc (Nat.le_refl _) _
    refine ⟨⟨w.heap.size, he, by rw [hw']; simp, fun j hj => ⟨T, ?_, ?_⟩⟩, hb⟩
    · have e0 : j = 0 := by simpa using hj
      subst e0
      rw [hw']
      exact new_cell w _ _ _
    · have e0 : j = 0 := by simpa using hj
      subst e0
      exact hat.below hat.1 hb
  · refine (steps_path T ts.length ts.length ad w ht.2.2.1 ht.2.2.2).mono ?_
    rintro e w' ⟨he, hw'⟩
    subst hw'
    refine ⟨⟨ad, he, hf.lt, fun j hj => ?_⟩, Below.refl _ _⟩
    obtain ⟨tb, _, hc, hat⟩ := hf.2 j hj hj
    exact ⟨tb, by rw [Nat.zero_add]; exact hc, hat⟩

/-- The cells of a length's target lie at block TG; the names of its path are ps. -/
def Tgt (w1 wx : World) (TG : Nat) (sys : Bool) (up : Int) (v : Value) (ps : List ByteArray) : Prop :=
  TG = w1.heap.size ∧ TG < wx.heap.size ∧ wx.cell? ⟨TG, 0, none⟩ = some (.bool sys) ∧ wx.cell? ⟨TG, 1, none⟩ = some (.int .i64 up) ∧ wx.cell? ⟨TG, 2, none⟩ = some v ∧ (∀ k, wx.frozen? ⟨TG, k, none⟩ = false) ∧
  wx.ownsRow (TG + 1) 9 1 v ps.length (ps.map Value.string) ∧ Below w1.heap.size w1 wx
theorem tgt_new (w1 : World) (sys : Bool) (up : Int) : Tgt w1 (w1.alloc (.cells #[.bool sys, .int .i64 up, .slice none 0 0] 28)) w1.heap.size sys up (.slice none 0 0) [] := by
  refine ⟨rfl, by simp, new_cell _ _ _ _, new_cell _ _ _ _, new_cell _ _ _ _, fun k => ?_, World.ownsRow_nil _ _ _ _, (Below.refl _ _).alloc (Nat.le_refl _) _⟩
  unfold World.frozen?
  rw [heap_alloc_new]
  simp
theorem infoStr : (Tryf.prog.info? 9).map (fun i => (i.zero, i.size, i.bytes)) = some (some (.string ⟨#[]⟩), 1, 16) := by kernel_rfl
/-- One more name behind the path's, as one step of a region that draws its order. -/
theorem step_append_one {P : Program} {ops : Array Oper} {o : Oper} {a : Act} {K : Act → World → Prop} {Q : Exit → Act → World → Prop} {E : Prop} (hgd : o.guard = none) (s x : Operand) (t : TypeId)
    (ho : o.op = .call { callee := .builtin .append, args := #[s, x], argTypes := #[t, t] })
    (B : Nat) (e : TypeId) (i : TypeInfo) (z : Value) (ht : P.underlying t = some (.slice e)) (hi : P.info? e = some i) (hz : i.zero = some z) (hsize : i.size = 1) (hby : i.bytes = 16) (hzs : z.cells.size = 1)
    (v : Value) (n : Nat) (xs : List Value) (hs : a.eval s = v) (w0 : World) (y : Value) (hy : y.oneCell' = true) (hb : w0.ownsRow B e 1 v n xs) (hB : B ≤ w0.heap.size)
    (hx : a.eval x = .slice (some ⟨w0.heap.size, 0, none⟩) 1 1) (hlen : n + 1 ≤ 4194304)
    (h : ∀ v' w', w'.ownsRow B e 1 v' (n + 1) (xs ++ [y]) → (w0.alloc (.cells #[y] e)).grownBy w' v.ownBlock → K (a.put o.dst v') w') :
    if Region.wanted o (yielded ops a.tmps) = true then Oper.wp P o a (w0.alloc (.cells #[y] e)) K Q else E := by
  have hw : Region.wanted o (yielded ops a.tmps) = true := by simp [Region.wanted, hgd]
  rw [if_pos hw]
  obtain ⟨v', w', hrun, r1, r2, _⟩ := run_append_own (P := P) (w0.alloc (.cells #[y] e)) B t o.type e i z 1 16 ht hi hz hsize hby hzs (by decide) v n xs (hb.alloc _) ⟨w0.heap.size, 0, none⟩ 1 1 [y] (by simp)
    (fun j u hj => by
      match j, hj with
      | 0, hj =>
        simp at hj; subst hj
        simp [Addr.add]
      | (j + 1), hj => simp at hj)
    (fun u hu => by simp at hu; subst hu; exact hy) (by unfold maxLen; omega) (by omega) (by simp; omega)
  unfold Oper.wp
  simp [execOp, ho, resolve, invoke, builtin, hs, hx, hrun, Result.andThen]
  exact h v' w' r1 r2
theorem Tgt.push {w1 wx : World} {TG : Nat} {sys : Bool} {up : Int} {v : Value} {ps : List ByteArray} (h : Tgt w1 wx TG sys up v ps) (o : Obj) (w' : World) (v' : Value) (x : ByteArray)
    (ho : w'.ownsRow (TG + 1) 9 1 v' (ps.length + 1) (ps.map Value.string ++ [.string x])) (hg : (wx.alloc o).grownBy w' v.ownBlock) :
    w'.cell? ⟨TG, 2, none⟩ = some v ∧ w'.frozen? ⟨TG, 2, none⟩ = false ∧ Tgt w1 (w'.setCell ⟨TG, 2, none⟩ v') TG sys up v' (ps ++ [x]) := by
  obtain ⟨h1, h2, h3, h4, h5, h6, h7, h8⟩ := h
  have hsz : (wx.alloc o).heap.size = wx.heap.size + 1 := by simp
  have hne : some TG ≠ v.ownBlock := fun e => by
    have := (h7.lt TG e.symm).1
    omega
  have hT : w'.heap[TG]? = wx.heap[TG]? := (hg.block TG (by omega) hne).trans (Below.heap_alloc wx o TG h2)
  have hc : ∀ k, w'.cell? ⟨TG, k, none⟩ = wx.cell? ⟨TG, k, none⟩ := fun k => World.cell?_of_block hT
  have hf : ∀ k, w'.frozen? ⟨TG, k, none⟩ = wx.frozen? ⟨TG, k, none⟩ := fun k => World.frozen?_of_block hT
  have hs' := hg.size
  refine ⟨(hc 2).trans h5, (hf 2).trans (h6 2), h1, ?_, ?_, ?_, World.cell?_setCell_same _ _ _ ((hc 2).trans h5), fun k => ?_, ?_, ?_⟩
  · simp [World.setCell]; omega
  · rw [World.cell?_setCell_other _ _ _ _ (by simp)]; exact (hc 0).trans h3
  · rw [World.cell?_setCell_other _ _ _ _ (by simp)]; exact (hc 1).trans h4
  · rw [World.frozen?_setCell]; exact (hf k).trans (h6 k)
  · have e1 : (ps ++ [x]).length = ps.length + 1 := by simp
    have e2 : (ps ++ [x]).map Value.string = ps.map Value.string ++ [.string x] := by simp
    rw [e1, e2]
    refine ⟨ho.1, ?_⟩
    rcases ho.2 with h0 | ⟨g, cap, cur, hv, hg1, hg2, hg3⟩
    · exact .inl h0
    · exact .inr ⟨g, cap, cur, hv, hg1, (heap_setCell_other _ _ _ _ (by show g ≠ TG; omega)).trans hg2, hg3⟩
  · refine Below.setCell ?_ (Nat.le_of_eq h1.symm) _
    have hb1 : Below w1.heap.size w1 (wx.alloc o) := h8.alloc (by have := h8.size; omega) o
    exact hb1.grown hg (by have := h8.size; omega) (fun k hk => by have := (h7.lt k hk).1; omega)
end Go.Proofs.Qxb6613464aFmt
