/-
  WALK: ZZLenTarget.
-/
import Derived.Test.Qxb6613464aFmtWalkH
namespace Go.Proofs.Qxb6613464aFmt
open Go.RowKit Go.Extern.Stop Go.Stop Go.Extern

theorem PathVal.same {w w' : World} {v : Value} {ps : List ByteArray} (h : PathVal w v ps) (hs : w.heap.size ≤ w'.heap.size) (hb : ∀ g, (∃ n c, v = .slice (some ⟨g, 0, none⟩) n c) → w'.heap[g]? = w.heap[g]?) : PathVal w' v ps := by
  rcases h with h | ⟨g, cap, hv, h1, h2, h3, h4⟩
  · exact .inl h
  · exact .inr ⟨g, cap, hv, h1, h2, by omega, fun j hj => (World.cell?_of_block (hb g ⟨_, _, hv⟩)).trans (h4 j hj)⟩
theorem PathVal.form {w : World} {v : Value} {ps : List ByteArray} (h : PathVal w v ps) : ∃ a n c, v = .slice a n c := by
  rcases h with ⟨_, hv⟩ | ⟨g, cap, hv, _⟩
  · exact ⟨_, _, _, hv⟩
  · exact ⟨_, _, _, hv⟩

/-- The path's array is no block that begins with a bool. -/
theorem PathVal.apart {w : World} {v : Value} {ps : List ByteArray} (h : PathVal w v ps) {R g n c : Nat} {q : Bool} (hR : w.cell? ⟨R, 0, none⟩ = some (.bool q)) (hv : v = .slice (some ⟨g, 0, none⟩) n c) : g ≠ R := by
  rintro rfl
  rcases h with ⟨_, h⟩ | ⟨g', cap, h, h1, _, _, h4⟩
  · rw [h] at hv; cases hv
  · rw [h] at hv
    injection hv with e1 _ _
    injection e1 with e1
    injection e1 with e1
    subst e1
    have := h4 0 h1
    rw [hR] at this
    cases this

set_option maxHeartbeats 800000 in
set_option maxRecDepth 100000 in
theorem zzLen_any (F : Interp) (C T : Nat) (s : ByteArray) (ts : List ByteArray) (w : World) (hF : F.answers w.tape) (hne : NoErr C w) (hl : ts.length ≤ 1048577) (hp : 0 < ts.length) (hpath : PathAt w T ts) :
    Calls Tryf.prog 7 #[.pointer (some ⟨C, 0, none⟩), .string s, .pointer (some ⟨T, 0, none⟩)] w fun e w' => SaysLen C ts w' e ∧ Below C w w' := by
  have HL : Hid (∀ wA, Below w.heap.size w wA → Calls Tryf.prog 12 #[.pointer (some ⟨C, 0, none⟩), .string s, .pointer (some ⟨T, 0, none⟩)] wA fun e w' => SaysLen C ts w' e ∧ Below C wA w' ∧ Others C wA w') := fun wA hb =>
    lenTarget_any F C T s ts wA (by rw [hb.tape]; exact hF) (hne.grow hb) hl hp (hpath.grow hb)
  have hRC : C < w.heap.size := hne.1
  clear hF hne hl hp hpath
  go_enter Tryf.func7, Tryf.ntmps7
  go_wp2_with fail
  have hbA : Below w.heap.size w (w.alloc (.cells #[.bool false, .int .i64 0, .slice none 0 0] 28)) := (Below.refl _ _).alloc (Nat.le_refl _) _
  have hrA : ResAt (w.alloc (.cells #[.bool false, .int .i64 0, .slice none 0 0] 28)) w.heap.size := ⟨by simp, heap_alloc_new _ _⟩
  refine (HL.out _ hbA).mono ?_
  rintro e w1 ⟨hsay, hb1, ho1⟩
  have hres := hrA.others ho1 (by omega)
  have hbw : Below C w w1 := (hbA.mono (by omega)).trans hb1
  obtain ⟨R, hR⟩ : ∃ R, R = w.heap.size := ⟨_, rfl⟩
  rw [← hR] at hres hRC ⊢
  clear hbA hrA HL hb1 ho1 hR
  obtain ⟨r0, r1, r2, rf⟩ := hres.cells
  have rf0 := rf 0
  have rf1 := rf 1
  have rf2 := rf 2
  have HRES : Hid (ResAt w1 R) := hres
  clear rf hres
  rcases hsay with ⟨hcl, ⟨v, rfl, hpv⟩, hno⟩ | ⟨hncl, rfl, hone⟩
  · obtain ⟨pa, pn, pc, hv⟩ := hpv.form
    subst hv
    have HPV : Hid (PathVal w1 (.slice pa pn pc) (tgt ts).2.2) := hpv
    have HNO : Hid (NoErr C w1) := hno
    have HCL : Hid (clean (tgt ts).2.2) := hcl
    obtain ⟨s0, s1, s2⟩ := set3 r0 r1 r2 (.bool (tgt ts).1) (.int .i64 ((tgt ts).2.1 : Int)) (.slice pa pn pc)
    clear hpv hno hcl
    go_wp2
    refine bodyPost_ret (by simp [results, Tryf.results7, go_sem, s0, s1, s2]; try rfl) rfl ?_
    refine ⟨.inl ⟨HCL.out, ⟨_, rfl, HPV.out.same (by simp [World.setCell]) ?_⟩, ?_⟩, ((hbw.setCell (by show C ≤ R; omega) _).setCell (by show C ≤ R; omega) _).setCell (by show C ≤ R; omega) _⟩
    · rintro g ⟨n, c, hv⟩
      have hg := HPV.out.apart r0 hv
      rw [heap_setCell_other _ _ _ _ hg, heap_setCell_other _ _ _ _ hg, heap_setCell_other _ _ _ _ hg]
    · have hn := HNO.out
      refine ⟨by simpa [World.setCell] using hn.1, ?_, by simpa using hn.2.2⟩
      rw [World.cell?_setCell_other _ _ _ _ (by simp), World.cell?_setCell_other _ _ _ _ (by simp), World.cell?_setCell_other _ _ _ _ (by simp)]
      exact hn.2.1
  · obtain ⟨s0, s1, s2⟩ := set3 r0 r1 r2 (.bool false) (.int .i64 0) (.slice none 0 0)
    have HONE : Hid (OneErr C w1) := hone
    have HNCL : Hid (¬ clean (tgt ts).2.2) := hncl
    clear hone hncl
    go_wp2
    refine bodyPost_ret (by simp [results, Tryf.results7, go_sem, s0, s1, s2]; try rfl) rfl ?_
    refine ⟨.inr ⟨HNCL.out, rfl, ?_⟩, ((hbw.setCell (by show C ≤ R; omega) _).setCell (by show C ≤ R; omega) _).setCell (by show C ≤ R; omega) _⟩
    obtain ⟨x, c, hx⟩ := HONE.out
    refine ⟨x, c, ?_⟩
    rw [World.cell?_setCell_other _ _ _ _ (by simp), World.cell?_setCell_other _ _ _ _ (by simp), World.cell?_setCell_other _ _ _ _ (by simp)]
    exact hx
end Go.Proofs.Qxb6613464aFmt
