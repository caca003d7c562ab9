/-
  PLAIN: what lenTarget says of a path, and of "parent" ahead of it.
-/
import Derived.Test.Qxb6613464aFmtWalkI
namespace Go.Proofs.Qxb6613464aFmt
open Go.RowKit Go.Extern.Stop Go.Stop Go.Extern

theorem tgt_behind (ns : List ByteArray) : tgt (par :: ns) = (false, lead ns + 1, ns.drop (lead ns)) := by
  have h := tgt_par (ts := par :: ns) (by simp) rfl
  have el : lead (par :: ns) = lead ns + 1 := by rw [lead, if_pos rfl]
  rw [← h, el, List.drop_succ_cons]
theorem lead_zero {ns : List ByteArray} (hp : 0 < ns.length) (h : ns[0] ≠ par) : lead ns = 0 := by
  cases ns with
  | nil => simp at hp
  | cons x t => rw [lead, if_neg (show ¬ x = par from h)]
theorem lead_none {ns : List ByteArray} (hp : 0 < ns.length) (h : lead ns = 0) : ns[0] ≠ par := by
  have := lead_at ns (by omega)
  simpa only [h] using this
theorem tgt_up {ns : List ByteArray} (h : 0 < lead ns) : tgt ns = (false, lead ns, ns.drop (lead ns)) := by
  have hl := lead_le ns
  exact (tgt_par (by omega) (lead_before ns 0 (by omega) h)).symm
theorem clean_drop {ns : List ByteArray} {k : Nat} (h : ∀ j (hj : j < ns.length), k ≤ j → ns[j] ≠ par) : clean (ns.drop k) := by
  intro x hx
  obtain ⟨i, hi, rfl⟩ := List.getElem_of_mem hx
  rw [List.length_drop] at hi
  rw [List.getElem_drop]
  exact h _ _ (by omega)
theorem clean_at {ns : List ByteArray} {k j : Nat} (h : clean (ns.drop k)) (hj : j < ns.length) (hk : k ≤ j) : ns[j] ≠ par := by
  have hlt : j - k < (ns.drop k).length := by rw [List.length_drop]; omega
  have := h _ (List.getElem_mem hlt)
  rw [List.getElem_drop] at this
  simpa only [Nat.add_sub_cancel' hk] using this
theorem clean_alone {ns : List ByteArray} (hp : 0 < ns.length) : clean (tgt ns).2.2 ↔ clean (ns.drop (lead ns)) := by
  by_cases h0 : ns[0] = par
  · rw [← tgt_par hp h0]
  · have hz := lead_zero hp h0
    rw [hz, List.drop_zero]
    by_cases h1 : 1 < ns.length ∧ ns[0] = sysc
    · rw [← tgt_sys hp h1.1 h1.2]
      constructor
      · intro h x hx
        obtain ⟨i, hi, rfl⟩ := List.getElem_of_mem hx
        by_cases hi0 : i = 0
        · subst hi0; exact h0
        · exact clean_at h hi (by omega)
      · intro h x hx
        exact h x (List.mem_of_mem_drop hx)
    · rw [← tgt_else hp (by
        by_cases h2 : ns.length = 1
        · exact .inl h2
        · exact .inr (fun e => h1 ⟨by omega, e⟩)) h0]

/-- samePath of a made path and any slice of the same names. -/
theorem same_any (v : Value) (ps : List ByteArray) (a : Option Addr) (n c : Nat) (w : World) (hl : ps.length ≤ 1048576) (h1 : PathVal w v ps) (hn : n = ps.length) (h2 : 0 < ps.length → ∃ b off, a = some ⟨b, off, none⟩ ∧ StrsAt w b off ps) :
    Calls Tryf.prog 11 #[v, .slice a n c] w fun e w' => e = .returned (.bool true) ∧ ∃ q, w' = w.drewN q := by
  subst hn
  rcases h1 with ⟨rfl, rfl⟩ | ⟨g, cap, rfl, hp, hcap, hg, hst⟩
  · exact same_nil a c w
  · obtain ⟨b, off, rfl, hst2⟩ := h2 hp
    exact same_some g 0 cap b off c ps w hp hl hst hst2
theorem PathVal.strs {w : World} {ps : List ByteArray} {a : Option Addr} {n c : Nat} (h : PathVal w (.slice a n c) ps) : n = ps.length ∧ (0 < ps.length → ∃ b off, a = some ⟨b, off, none⟩ ∧ StrsAt w b off ps) := by
  rcases h with ⟨rfl, h⟩ | ⟨g, cap, hv, hp, hcap, hg, hst⟩
  · injection h with _ e _
    exact ⟨e, fun h => by simp at h⟩
  · injection hv with e1 e2 e3
    exact ⟨e2, fun _ => ⟨g, 0, e1, hst⟩⟩
theorem PathVal.grow {w w' : World} {v : Value} {ps : List ByteArray} (h : PathVal w v ps) (hb : Below w.heap.size w w') : PathVal w' v ps := by
  rcases h with h | ⟨g, cap, hv, h1, h2, h3, h4⟩
  · exact .inl h
  · exact .inr ⟨g, cap, hv, h1, h2, Nat.lt_of_lt_of_le h3 hb.size, h4.below h3 hb⟩
/-- The cells of a boxed target. -/
def BoxAt (w : World) (B : Nat) (sys : Bool) (up : Int) (v : Value) : Prop := B < w.heap.size ∧ w.cell? ⟨B, 0, none⟩ = some (.bool sys) ∧ w.cell? ⟨B, 1, none⟩ = some (.int .i64 up) ∧ w.cell? ⟨B, 2, none⟩ = some v
theorem boxAt_new (w : World) (sys : Bool) (up : Int) (v : Value) : BoxAt (w.alloc (.cells #[.bool sys, .int .i64 up, v] 28)) w.heap.size sys up v :=
  ⟨by simp, new_cell _ _ _ _, new_cell _ _ _ _, new_cell _ _ _ _⟩
theorem BoxAt.grow {w w' : World} {B : Nat} {sys : Bool} {up : Int} {v : Value} (h : BoxAt w B sys up v) (hb : Below w.heap.size w w') : BoxAt w' B sys up v :=
  ⟨Nat.lt_of_lt_of_le h.1 hb.size, (hb.cell (p := ⟨B, 0, none⟩) h.1).trans h.2.1, (hb.cell (p := ⟨B, 1, none⟩) h.1).trans h.2.2.1, (hb.cell (p := ⟨B, 2, none⟩) h.1).trans h.2.2.2⟩
theorem OneErr.grow {w w' : World} {C : Nat} (h : OneErr C w) (hC : C < w.heap.size) (hb : Below w.heap.size w w') : OneErr C w' := by
  obtain ⟨x, c, hx⟩ := h
  exact ⟨x, c, (hb.cell (p := ⟨C, 19, none⟩) hC).trans hx⟩
theorem newComp2 (w : World) : Calls Tryf.prog 6 #[] w fun e w' => e = .returned (.pointer (some ⟨w.heap.size, 0, none⟩)) ∧ NoErr w.heap.size w' ∧ Below w.heap.size w w' := by
  refine (newComp w).mono ?_
  rintro e w' ⟨rfl, rfl⟩
  refine ⟨rfl, ⟨by simp, (new_cell _ _ _ _).trans rfl, ?_⟩, (Below.refl _ _).alloc (Nat.le_refl _) _⟩
  unfold World.frozen?
  rw [heap_alloc_new]
  simp
theorem path_any (b off c : Nat) (ns : List ByteArray) (ex : Bool) (w : World) (hl : ns.length ≤ 1048576) (hp : 1 ≤ ns.length) (hb : b < w.heap.size) (hst : StrsAt w b off ns) :
    Calls Tryf.prog 8 #[.slice (some ⟨b, off, none⟩) ns.length c, .bool ex] w fun e w' => SaysPath (pre ex ++ ns) w' e ∧ Below w.heap.size w w' := by
  by_cases h1 : ex = false ∧ ns.length = 1
  · obtain ⟨rfl, h1⟩ := h1
    obtain ⟨x, rfl⟩ := List.length_eq_one_iff.1 h1
    exact path_one b off c x w (hst 0 (by simp))
  · refine path_many b off c ns ex w hl hp ?_ hb hst
    cases ex
    · exact .inr (by have : ¬ ns.length = 1 := fun e => h1 ⟨rfl, e⟩; omega)
    · exact .inl rfl
/-- pathTerm and ZZLenTarget over it, in the worlds that follow. -/
theorem below_tape {B : Nat} {w w' : World} (h : Below B w w') {F : Interp} (hF : F.answers w.tape) : F.answers w'.tape := by rw [h.tape]; exact hF
end Go.Proofs.Qxb6613464aFmt
