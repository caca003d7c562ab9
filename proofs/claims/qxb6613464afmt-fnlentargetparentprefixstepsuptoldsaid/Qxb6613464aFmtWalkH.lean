/-
  WALK: lenTarget.
-/
import Derived.Test.Qxb6613464aFmtWalkG
import Derived.Deep.DeepCutAuto
import Derived.Deep.CutBlock
import Derived.Deep.LoopGhost
import Derived.Deep.RegionWith
import Derived.Lib.Strings
namespace Go.Proofs.Qxb6613464aFmt
open Go.RowKit Go.Extern.Stop Go.Stop Go.Extern

theorem PathAt.grow {w w' : World} {T : Nat} {ts : List ByteArray} (h : PathAt w T ts) (hb : Below w.heap.size w w') : PathAt w' T ts := by
  rcases h with ⟨x, e, hat⟩ | ⟨ad, ht, hf⟩
  · exact .inl ⟨x, e, hat.below hat.1 hb⟩
  · exact .inr ⟨ad, ht.same hb.size (hb.block T ht.1), hf.grow hb⟩
/-- The result's own cells, nought yet. -/
def ResAt (w : World) (R : Nat) : Prop := R < w.heap.size ∧ w.heap[R]? = some (.cells #[.bool false, .int .i64 0, .slice none 0 0] 28 (0, 0))
theorem ResAt.grow {w w' : World} {R : Nat} (h : ResAt w R) (hb : Below w.heap.size w w') : ResAt w' R := ⟨Nat.lt_of_lt_of_le h.1 hb.size, (hb.block R h.1).trans h.2⟩
/-- The compiler bears no error yet. -/
def NoErr (C : Nat) (w : World) : Prop := C < w.heap.size ∧ w.cell? ⟨C, 19, none⟩ = some (.slice none 0 0) ∧ w.frozen? ⟨C, 19, none⟩ = false
theorem NoErr.grow {w w' : World} {C : Nat} (h : NoErr C w) (hb : Below w.heap.size w w') : NoErr C w' :=
  ⟨Nat.lt_of_lt_of_le h.1 hb.size, (hb.cell (p := ⟨C, 19, none⟩) h.1).trans h.2.1, (World.frozen?_of_block (hb.block C h.1)).trans h.2.2⟩

theorem list_ne {x : ByteArray} {l : List UInt8} (h : x ≠ ⟨l.toArray⟩) : (x.toList == l) = false := by
  rw [Lib.toList_data]
  apply Bool.eq_false_iff.2
  intro e
  apply h
  apply ByteArray.ext
  apply Array.ext'
  simpa using beq_iff_eq.1 e
theorem Tgt.setUp {w1 wx : World} {TG : Nat} {sys : Bool} {up : Int} {v : Value} {ps : List ByteArray} (h : Tgt w1 wx TG sys up v ps) (u : Int) : Tgt w1 (wx.setCell ⟨TG, 1, none⟩ (.int .i64 u)) TG sys u v ps := by
  obtain ⟨h1, h2, h3, h4, h5, h6, h7, h8⟩ := h
  refine ⟨h1, by simpa [World.setCell] using h2, ?_, World.cell?_setCell_same _ _ _ h4, ?_, fun k => ?_, ⟨h7.1, ?_⟩, h8.setCell (Nat.le_of_eq h1.symm) _⟩
  · rw [World.cell?_setCell_other _ _ _ _ (by simp)]; exact h3
  · rw [World.cell?_setCell_other _ _ _ _ (by simp)]; exact h5
  · rw [World.frozen?_setCell]; exact h6 k
  · rcases h7.2 with h0 | ⟨g, cap, cur, hv, hg1, hg2, hg3⟩
    · exact .inl h0
    · exact .inr ⟨g, cap, cur, hv, hg1, (heap_setCell_other _ _ _ _ (by show g ≠ TG; omega)).trans hg2, hg3⟩
/-- v is the slice of the names ps: nil where there is none. -/
def PathVal (w : World) (v : Value) (ps : List ByteArray) : Prop := (ps = [] ∧ v = .slice none 0 0) ∨ ∃ g cap, v = .slice (some ⟨g, 0, none⟩) ps.length cap ∧ 0 < ps.length ∧ ps.length ≤ cap ∧ g < w.heap.size ∧ StrsAt w g 0 ps
/-- What lenTarget answers. -/
def SaysLen (C : Nat) (ts : List ByteArray) (w' : World) (e : Ending) : Prop :=
  (clean (tgt ts).2.2 ∧ (∃ v, e = .returned (.tuple #[.agg #[.bool (tgt ts).1, .int .i64 ((tgt ts).2.1 : Int), v], .bool true]) ∧ PathVal w' v (tgt ts).2.2) ∧ NoErr C w') ∨
  (¬ clean (tgt ts).2.2 ∧ e = .returned (.tuple #[.agg #[.bool false, .int .i64 0, .slice none 0 0], .bool false]) ∧ OneErr C w')
theorem ResAt.cells {w : World} {R : Nat} (h : ResAt w R) : w.cell? ⟨R, 0, none⟩ = some (.bool false) ∧ w.cell? ⟨R, 1, none⟩ = some (.int .i64 0) ∧ w.cell? ⟨R, 2, none⟩ = some (.slice none 0 0) ∧ ∀ k, w.frozen? ⟨R, k, none⟩ = false := by
  refine ⟨?_, ?_, ?_, fun k => ?_⟩
  · unfold World.cell?; rw [h.2]; rfl
  · unfold World.cell?; rw [h.2]; rfl
  · unfold World.cell?; rw [h.2]; rfl
  · unfold World.frozen?; rw [h.2]; simp
theorem set3 {w : World} {R : Nat} {u0 u1 u2 : Value} (h0 : w.cell? ⟨R, 0, none⟩ = some u0) (h1 : w.cell? ⟨R, 1, none⟩ = some u1) (h2 : w.cell? ⟨R, 2, none⟩ = some u2) (a b c : Value) :
    (w.setCell ⟨R, 0, none⟩ a).cell? ⟨R, 0, none⟩ = some a ∧ ((w.setCell ⟨R, 0, none⟩ a).setCell ⟨R, 1, none⟩ b).cell? ⟨R, 1, none⟩ = some b ∧
    (((w.setCell ⟨R, 0, none⟩ a).setCell ⟨R, 1, none⟩ b).setCell ⟨R, 2, none⟩ c).cell? ⟨R, 2, none⟩ = some c := by
  have e1 : (w.setCell ⟨R, 0, none⟩ a).cell? ⟨R, 1, none⟩ = some u1 := by rw [World.cell?_setCell_other _ _ _ _ (by simp)]; exact h1
  have e2 : ((w.setCell ⟨R, 0, none⟩ a).setCell ⟨R, 1, none⟩ b).cell? ⟨R, 2, none⟩ = some u2 := by
    rw [World.cell?_setCell_other _ _ _ _ (by simp), World.cell?_setCell_other _ _ _ _ (by simp)]; exact h2
  exact ⟨World.cell?_setCell_same _ _ _ h0, World.cell?_setCell_same _ _ _ e1, World.cell?_setCell_same _ _ _ e2⟩
theorem Tgt.path {w1 wx : World} {TG : Nat} {sys : Bool} {up : Int} {v : Value} {ps : List ByteArray} (h : Tgt w1 wx TG sys up v ps) (h0 : ps.length = 0 → v = .slice none 0 0) (W : World) (hs : wx.heap.size ≤ W.heap.size) (hW : ∀ g, TG < g → W.heap[g]? = wx.heap[g]?) :
    PathVal W v ps ∧ ∃ a n c, v = .slice a n c := by
  obtain ⟨_, _, _, _, _, _, ⟨hl, h7⟩, _⟩ := h
  rcases h7 with ⟨hv, hn⟩ | ⟨g, cap, cur, hv, hg1, hg2, hnc, _, hcs, htake⟩
  · exact ⟨.inl ⟨List.eq_nil_of_length_eq_zero hn, hv⟩, _, _, _, hv⟩
  · refine ⟨?_, _, _, _, hv⟩
    by_cases hz : ps.length = 0
    · exact .inl ⟨List.eq_nil_of_length_eq_zero hz, h0 hz⟩
    · have hgl : g < wx.heap.size := (Array.getElem?_eq_some_iff.1 hg2).1
      refine .inr ⟨g, cap, hv, by omega, hnc, by omega, fun j hj => ?_⟩
      have e : cur.toList[j]? = some (.string ps[j]) := by
        have e1 : (cur.toList.take (ps.length * 1))[j]? = cur.toList[j]? := by rw [List.getElem?_take, if_pos (by omega)]
        rw [← e1, htake, List.getElem?_map, List.getElem?_eq_getElem hj]
        rfl
      rw [Array.getElem?_toList] at e
      rw [Nat.zero_add]
      unfold World.cell?
      rw [hW g (by omega), hg2]
      simp [e]
theorem own_form {w : World} {B e size n : Nat} {v : Value} {xs : List Value} (h : w.ownsRow B e size v n xs) : ∃ a n c, v = .slice a n c := by
  rcases h.2 with ⟨hv, _⟩ | ⟨g, cap, cur, hv, _⟩
  · exact ⟨_, _, _, hv⟩
  · exact ⟨_, _, _, hv⟩
theorem others_of {C : Nat} {w w' : World} (h : Below w.heap.size w w') : Others C w w' := ⟨h.size, fun k hk _ => h.block k hk⟩
theorem Others.trans {C : Nat} {a b c : World} (h : Others C a b) (h2 : Others C b c) : Others C a c := ⟨Nat.le_trans h.1 h2.1, fun k hk hne => (h2.2 k (Nat.lt_of_lt_of_le hk h.1) hne).trans (h.2 k hk hne)⟩
theorem Others.set {C : Nat} {a b : World} (h : Others C a b) {p : Addr} (hp : a.heap.size ≤ p.block) (v : Value) : Others C a (b.setCell p v) :=
  ⟨by simpa [World.setCell] using h.1, fun k hk hne => (heap_setCell_other _ _ _ _ (by omega)).trans (h.2 k hk hne)⟩
theorem ResAt.others {w w' : World} {R C : Nat} (h : ResAt w R) (ho : Others C w w') (hne : R ≠ C) : ResAt w' R := ⟨Nat.lt_of_lt_of_le h.1 ho.1, (ho.2 R h.1 hne).trans h.2⟩
theorem head_at {ts : List ByteArray} (hp : 0 < ts.length) : ts.head? = some ts[0] := by
  cases ts with
  | nil => simp at hp
  | cons x t => rfl
theorem tgt_sys {ts : List ByteArray} (hp : 0 < ts.length) (h1 : 1 < ts.length) (h : ts[0] = sysc) : (true, 0, ts.drop 1) = tgt ts := by
  unfold tgt
  rw [head_at hp, h, if_pos ⟨h1, rfl⟩]
theorem tgt_par {ts : List ByteArray} (hp : 0 < ts.length) (h : ts[0] = par) : (false, lead ts, ts.drop (lead ts)) = tgt ts := by
  unfold tgt
  rw [head_at hp, h, if_neg (fun e => sysc_ne (Option.some.inj e.2).symm), if_pos rfl]
theorem tgt_else {ts : List ByteArray} (hp : 0 < ts.length) (h1 : ts.length = 1 ∨ ts[0] ≠ sysc) (h : ts[0] ≠ par) : (false, 1, ts) = tgt ts := by
  unfold tgt
  rw [head_at hp, if_neg (fun e => by rcases h1 with h1 | h1; omega; exact h1 (Option.some.inj e.2)), if_neg (fun e => h (Option.some.inj e))]

set_option maxHeartbeats 1600000 in
set_option maxRecDepth 100000 in
theorem lenTarget_any (F : Interp) (C T : Nat) (s : ByteArray) (ts : List ByteArray) (w : World) (hF : F.answers w.tape) (hne : NoErr C w) (hl : ts.length ≤ 1048577) (hp : 0 < ts.length) (hpath : PathAt w T ts) :
    Calls Tryf.prog 12 #[.pointer (some ⟨C, 0, none⟩), .string s, .pointer (some ⟨T, 0, none⟩)] w fun e w' => SaysLen C ts w' e ∧ Below C w w' ∧ Others C w w' := by
  have HNE : Hid (NoErr C w) := hne
  have HSTEPS : Hid (∀ wA, Below w.heap.size w wA → Calls Tryf.prog 16 #[.pointer (some ⟨T, 0, none⟩)] wA fun e w' => SaysSteps ts w' e ∧ Below wA.heap.size wA w') := fun wA hb => steps_any T ts wA (hpath.grow hb)
  clear hne hpath
  go_enter Tryf.func12, Tryf.ntmps12
  go_wp2_with fail
  have hbA : Below w.heap.size w (w.alloc (.cells #[.bool false, .int .i64 0, .slice none 0 0] 28)) := (Below.refl _ _).alloc (Nat.le_refl _) _
  have hrA : ResAt (w.alloc (.cells #[.bool false, .int .i64 0, .slice none 0 0] 28)) w.heap.size := ⟨by simp, heap_alloc_new _ _⟩
  have HS := HSTEPS.out _ hbA
  clear HSTEPS
  generalize w.alloc (.cells #[.bool false, .int .i64 0, .slice none 0 0] 28) = wA at hbA hrA HS ⊢
  refine HS.mono ?_
  rintro e w1 ⟨⟨ad, rfl, had, hst⟩, hb1⟩
  have HST : Hid (StepsAt w1 ad 0 ts) := hst
  have HRES : Hid (ResAt w1 w.heap.size) := hrA.grow hb1
  have HB1 : Hid (Below w.heap.size w w1) := below_of hbA hb1
  have HNE1 : Hid (NoErr C w1) := HNE.out.grow HB1.out
  clear hst hrA hbA hb1 HS
  have hRC : C < w.heap.size := HNE.out.1
  obtain ⟨R, hR⟩ : ∃ R, R = w.heap.size := ⟨_, rfl⟩
  rw [← hR] at HRES hRC ⊢
  have HF : Hid (F.answers w1.tape) := by
    show F.answers w1.tape
    rw [HB1.out.tape]; exact hF
  have HRW : Hid (R = w.heap.size) := hR
  clear hR hF
  go_wp2
  go_loopg [10, 18] ts.length (fun g _ i wx => wx = w1 ∧ ∃ k : Nat, k ≤ ts.length ∧ g = ts.length - k ∧ i = .int .i64 k)
  case atStart => exact ⟨rfl, 0, by omega, by omega, rfl⟩
  case round =>
    obtain ⟨hwr, k, hk, hg, rfl⟩ := hrel
    have hwr' := hwr.symm
    subst hwr'
    clear hwr
    have HG : Hid (gk = ts.length - k) := hg
    clear hg
    rcases Nat.lt_or_ge k ts.length with hlt | hge
    · obtain ⟨tb, hc1, hat⟩ := HST.out k hlt
      rw [Nat.zero_add] at hc1
      have hk3 := hat.2.2.2.2.1
      have hk7 := hat.2.2.2.2.2.2
      clear hat
      go_wp2
      go_roundg (ts.length - (k + 1))
      case rel => exact ⟨rfl, k + 1, by omega, rfl, by go_num⟩
      case measure => have := HG.out; omega
    · go_upto_block 2 with fail
      clear HG hge hk
      generalize decide (k < ts.length) = b19
      have HTN : Hid (Tgt w1 (w1.alloc (.cells #[.bool false, .int .i64 1, .slice none 0 0] 28)) w1.heap.size false 1 (.slice none 0 0) []) := tgt_new w1 false 1
      go_cut [8, 55, 71] (fun st _ _ wx => ∃ (sys : Bool) (up : Nat) (rs : List ByteArray) (p : Option Addr), st = .slice p rs.length rs.length ∧ rs.length ≤ ts.length ∧ (0 < rs.length → ∃ off, p = some ⟨ad, off, none⟩ ∧ StepsAt w1 ad off rs) ∧ Hid (Tgt w1 wx w1.heap.size sys up (.slice none 0 0) []) ∧ Hid ((sys, up, rs) = tgt ts))
      case first =>
        obtain ⟨tb, hc1, hat⟩ := HST.out 0 hp
        rw [Nat.zero_add] at hc1
        have hk4 := hat.2.2.2.2.2.1
        have htb := hat.1
        clear hat
        obtain ⟨x, hx⟩ : ∃ x, x = ts[0] := ⟨_, rfl⟩
        rw [← hx] at hk4
        have HX : Hid (x = ts[0]) := hx
        clear hx
        by_cases e1 : x = par
        · have HSP : Hid ((false, lead ts, ts.drop (lead ts)) = tgt ts) := tgt_par hp (by rw [← HX.out, e1])
          have HTZ : Hid (Tgt w1 (w1.alloc (.cells #[.bool false, .int .i64 0, .slice none 0 0] 28)) w1.heap.size false 0 (.slice none 0 0) []) := tgt_new w1 false 0
          unfold par at e1
          subst e1
          have h1or : (1 : Int) < (ts.length : Int) ∨ (ts.length : Int) ≤ 1 := by omega
          rcases h1or with h1 | h1
          all_goals
            go_wp2
            clear hc1 hk4 htb h1 HTN HX
            go_loopg [8] ts.length (fun g st wx => ∃ (k : Nat) (p : Option Addr), k ≤ lead ts ∧ g = ts.length - k ∧ st = .slice p (ts.length - k) (ts.length - k) ∧ (k < ts.length → p = some ⟨ad, k, none⟩) ∧ Hid (Tgt w1 wx w1.heap.size false k (.slice none 0 0) []))
            case atStart => exact ⟨0, some ⟨ad, 0, none⟩, by omega, by omega, rfl, fun _ => rfl, HTZ⟩
            case round =>
              obtain ⟨j, p, hj, hg, rfl, hp2, htg⟩ := hrel
              have HG : Hid (gk = ts.length - j) := hg
              have HP2 : Hid (j < ts.length → p = some ⟨ad, j, none⟩) := hp2
              clear hg hp2
              have hll := lead_le ts
              rcases Nat.lt_or_ge j ts.length with hlt | hge
              · obtain rfl := HP2.out hlt
                obtain ⟨tb, hc1, hat⟩ := (HST.out.below had htg.out.2.2.2.2.2.2.2) j hlt
                rw [Nat.zero_add] at hc1
                have hk4 := hat.2.2.2.2.2.1
                clear hat
                obtain ⟨y, hy⟩ : ∃ y, y = ts[j] := ⟨_, rfl⟩
                rw [← hy] at hk4
                have HY : Hid (y = ts[j]) := hy
                clear hy
                have hposi : (0 : Int) < ((ts.length - j : Nat) : Int) := by omega
                by_cases e2 : y = par
                · have hj1 : j + 1 ≤ lead ts := by
                    rcases Nat.lt_or_ge j (lead ts) with h | h
                    · omega
                    · have el : lead ts = j := by omega
                      have := lead_at ts (by omega)
                      simp only [el] at this
                      exact (this (by rw [← HY.out, e2])).elim
                  unfold par at e2
                  subst e2
                  have ht1 := htg.out.2.2.2.1
                  have htf := htg.out.2.2.2.2.2.1 1
                  have HTG' : Hid (Tgt w1 (wr.setCell ⟨w1.heap.size, 1, none⟩ (.int .i64 ((j : Int) + 1))) w1.heap.size false ((j : Int) + 1) (.slice none 0 0) []) := htg.out.setUp _
                  by_cases hone : ts.length - j = 1
                  · go_wp2
                    go_roundg (ts.length - (j + 1))
                    case rel => exact ⟨j + 1, _, hj1, rfl, by rw [show ts.length - (j + 1) = 0 by omega], fun h => by omega, HTG'⟩
                    case measure => have := HG.out; omega
                  · go_wp2
                    all_goals
                      go_roundg (ts.length - (j + 1))
                      case rel => exact ⟨j + 1, some ⟨ad, j + 1, none⟩, hj1, rfl, by rw [show ts.length - (j + 1) = ts.length - j - 1 by omega], fun _ => rfl, HTG'⟩
                      case measure => have := HG.out; omega
                · have e2' : (y.toList == [112, 97, 114, 101, 110, 116]) = false := list_ne e2
                  have hje : Hid (j = lead ts) := by
                    show j = lead ts
                    rcases Nat.lt_or_ge j (lead ts) with h | h
                    · exact (e2 (by rw [HY.out]; exact lead_before ts j hlt h)).elim
                    · omega
                  clear e2
                  go_wp2
                  go_meet
                  have hje' := hje.out
                  subst hje'
                  exact ⟨false, lead ts, ts.drop (lead ts), some ⟨ad, lead ts, none⟩, by rw [List.length_drop], by rw [List.length_drop]; omega, fun _ => ⟨lead ts, rfl, by have := HST.out.drop (lead ts); rwa [Nat.zero_add] at this⟩, htg, HSP⟩
              · have hje : Hid (j = lead ts) := by
                  show j = lead ts
                  omega
                have hjl : ts.length - j = 0 := by omega
                go_wp2
                go_meet
                have hje' := hje.out
                subst hje'
                exact ⟨false, lead ts, ts.drop (lead ts), p, by rw [List.length_drop, hjl], by rw [List.length_drop]; omega, fun h => by rw [List.length_drop] at h; omega, htg, HSP⟩
        · have e1' : (x.toList == [112, 97, 114, 101, 110, 116]) = false := list_ne e1
          rcases Nat.lt_or_ge 1 ts.length with h1 | h1
          · have h1n : ¬ ts.length = 1 := by omega
            by_cases e2 : x = sysc
            · have HSP : Hid ((true, 0, ts.drop 1) = tgt ts) := tgt_sys hp h1 (by rw [← HX.out, e2])
              have HTS : Hid (Tgt w1 (w1.alloc (.cells #[.bool true, .int .i64 0, .slice none 0 0] 28)) w1.heap.size true 0 (.slice none 0 0) []) := tgt_new w1 true 0
              unfold sysc at e2
              subst e2
              clear e1 e1'
              go_wp2
              go_meet
              exact ⟨true, 0, ts.drop 1, some ⟨ad, 1, none⟩, by rw [List.length_drop], by rw [List.length_drop]; omega, fun _ => ⟨1, rfl, by have := HST.out.drop 1; rwa [Nat.zero_add] at this⟩, HTS, HSP⟩
            · have e2' : (x.toList == [115, 121, 115, 99, 97, 108, 108]) = false := list_ne e2
              have HSP : Hid ((false, 1, ts) = tgt ts) := tgt_else hp (.inr (by rw [← HX.out]; exact e2)) (by rw [← HX.out]; exact e1)
              clear e1 e2
              go_wp2
              go_meet
              exact ⟨false, 1, ts, some ⟨ad, 0, none⟩, rfl, Nat.le_refl _, fun _ => ⟨0, rfl, HST.out⟩, HTN, HSP⟩
          · have HSP : Hid ((false, 1, ts) = tgt ts) := tgt_else hp (.inl (by omega)) (by rw [← HX.out]; exact e1)
            clear e1
            have h1i : (ts.length : Int) ≤ 1 := by omega
            go_wp2
            go_meet
            exact ⟨false, 1, ts, some ⟨ad, 0, none⟩, rfl, Nat.le_refl _, fun _ => ⟨0, rfl, HST.out⟩, HTN, HSP⟩
      case rest =>
        obtain ⟨sys, up, rs, p, rfl, hrl, hp3, htg, hsp⟩ := hcut
        have HP3 : Hid (0 < rs.length → ∃ off, p = some ⟨ad, off, none⟩ ∧ StepsAt w1 ad off rs) := hp3
        clear hp3 HTN
        go_wp2
        go_loopg [13, 100] rs.length (fun g _ i wx => ∃ (k : Nat) (v : Value), k ≤ rs.length ∧ g = rs.length - k ∧ i = .int .i64 k ∧ (k = 0 → v = .slice none 0 0) ∧ Hid (Tgt w1 wx w1.heap.size sys up v (rs.take k)) ∧ Hid (clean (rs.take k)))
        case atStart => exact ⟨0, _, by omega, by omega, rfl, fun _ => rfl, htg, fun x hx => by simp at hx⟩
        case round =>
          obtain ⟨j, v, hj, hg, rfl, hv0, htk, hcl⟩ := hrel
          have HG : Hid (gk = rs.length - j) := hg
          have HV0 : Hid (j = 0 → v = .slice none 0 0) := hv0
          clear hg hv0 htg
          have HBR : Hid (Below w1.heap.size w1 wr) := htk.out.2.2.2.2.2.2.2
          rcases Nat.lt_or_ge j rs.length with hlt | hge
          · obtain ⟨off, hpo, hst3⟩ := HP3.out (by omega)
            subst hpo
            obtain ⟨tb, hc1, hat⟩ := (hst3.below had HBR.out) j hlt
            obtain ⟨htb, hk0, hk1, hk2, _, hk4, _⟩ := hat
            obtain ⟨y, hy⟩ : ∃ y, y = rs[j] := ⟨_, rfl⟩
            rw [← hy] at hk4
            have HY : Hid (y = rs[j]) := hy
            have HST3 : Hid (StepsAt w1 ad off rs) := hst3
            clear hy hst3
            by_cases e2 : y = par
            · have hncl : Hid (¬ clean rs) := fun h => h y (by rw [HY.out]; exact List.getElem_mem _) e2
              unfold par at e2
              subst e2
              have HADD : Hid (Calls Tryf.prog 18 #[.pointer (some ⟨C, 19, none⟩), pos0, .string onlyText, .slice none 0 0] wr.drew fun e w' => e = .returned (.tuple #[]) ∧ OneErr C w' ∧ Below C wr.drew w' ∧ Others C wr.drew w') := by
                have hn := HNE1.out.grow HBR.out
                exact add_text F C wr.drew (by show F.answers wr.tape; rw [HBR.out.tape]; exact HF.out) hn.1 hn.2.1 hn.2.2
              unfold onlyText pos0 at HADD
              go_upto_region 23 with fail
              go_region_with (go_at_call 18; refine HADD.out.mono ?_; rintro e w5 ⟨rfl, hone, hbC, hoth⟩)
              all_goals
                have hresr : ResAt wr R := HRES.out.grow HBR.out
                have hres5 : ResAt w5 R := (show ResAt wr.drew R from hresr).others hoth (by omega)
                obtain ⟨r0, r1, r2, rf⟩ := hres5.cells
                have rf0 := rf 0
                have rf1 := rf 1
                have rf2 := rf 2
                clear rf hres5 hresr
                have hbw : Below C w w5 := (((below_of HB1.out HBR.out).mono (by have := HRW.out; omega) : Below C w wr).drew).trans hbC
                obtain ⟨s0, s1, s2⟩ := set3 r0 r1 r2 (.bool false) (.int .i64 0) (.slice none 0 0)
                have HOT : Hid (Others C w w5) := (others_of (below_of HB1.out HBR.out) : Others C w wr).trans hoth
                have HONE : Hid (OneErr C (((w5.setCell ⟨R, 0, none⟩ (.bool false)).setCell ⟨R, 1, none⟩ (.int .i64 0)).setCell ⟨R, 2, none⟩ (.slice none 0 0))) := by
                  obtain ⟨x, c, hx⟩ := hone
                  refine ⟨x, c, ?_⟩
                  rw [World.cell?_setCell_other _ _ _ _ (by simp), World.cell?_setCell_other _ _ _ _ (by simp), World.cell?_setCell_other _ _ _ _ (by simp)]
                  exact hx
                go_wp2
                refine bodyPost_ret (by simp [results, Tryf.results12, go_sem, s0, s1, s2]; try rfl) rfl ?_
                have hRe := HRW.out
                refine ⟨.inr ⟨?_, rfl, HONE.out⟩, ((hbw.setCell (by show C ≤ R; omega) _).setCell (by show C ≤ R; omega) _).setCell (by show C ≤ R; omega) _, (((HOT.out.set (by show _ ≤ R; omega) _).set (by show _ ≤ R; omega) _).set (by show _ ≤ R; omega) _)⟩
                rw [← hsp.out]
                exact hncl.out
            · have e2' : (y.toList == [112, 97, 114, 101, 110, 116]) = false := list_ne e2
              have HNP : Hid (y ≠ par) := e2
              clear e2
              obtain ⟨i0, hi, hz0, hz1, hz2⟩ := info_parts infoStr
              have HI : Hid (Tryf.prog.info? 9 = some i0 ∧ i0.zero = some (.string ⟨#[]⟩) ∧ i0.size = 1 ∧ i0.bytes = 16) := ⟨hi, hz0, hz1, hz2⟩
              clear hi hz0 hz1 hz2
              have t2 := htk.out.2.2.2.2.1
              have HOWN : Hid (wr.drew.ownsRow (w1.heap.size + 1) 9 1 v (rs.take j).length ((rs.take j).map Value.string)) := htk.out.2.2.2.2.2.2.1
              have hTGl : w1.heap.size < wr.heap.size := htk.out.2.1
              have HTL : Hid ((rs.take j).length ≤ 1048577) := by
                show (rs.take j).length ≤ 1048577
                rw [List.length_take]; omega
              obtain ⟨va, vn, vc, hvf⟩ := own_form HOWN.out
              subst hvf
              have HPUSH : Hid (∀ w' v', w'.ownsRow (w1.heap.size + 1) 9 1 v' ((rs.take j).length + 1) ((rs.take j).map Value.string ++ [.string y]) → (wr.drew.alloc (.cells #[.string y] 9)).grownBy w' (Value.slice va vn vc).ownBlock →
                  w'.cell? ⟨w1.heap.size, 2, none⟩ = some (.slice va vn vc) ∧ w'.frozen? ⟨w1.heap.size, 2, none⟩ = false ∧ Hid (Tgt w1 (w'.setCell ⟨w1.heap.size, 2, none⟩ v') w1.heap.size sys up v' (rs.take (j + 1)))) := fun w' v' ho hg => by
                have e3 : rs.take (j + 1) = rs.take j ++ [y] := by rw [HY.out, List.take_add_one, List.getElem?_eq_getElem hlt]; rfl
                rw [e3]
                exact htk.out.push (.cells #[.string y] 9) w' v' y ho ⟨hg.os, hg.tape, hg.output, hg.size, hg.block⟩
              have HCL' : Hid (clean (rs.take (j + 1))) := fun x hx => by
                rw [List.take_add_one, List.getElem?_eq_getElem hlt] at hx
                rcases List.mem_append.1 hx with hx | hx
                · exact hcl.out x hx
                · have : x = rs[j] := by simpa using hx
                  rw [this, ← HY.out]; exact HNP.out
              go_upto_region 25 with fail
              go_region_law (refine step_append_one rfl (.tmp 119) (.tmp 124) 22 rfl (w1.heap.size + 1) 9 i0 (.string ⟨#[]⟩) Tryf.underlying22 HI.out.1 HI.out.2.1 HI.out.2.2.1 HI.out.2.2.2 rfl (.slice va vn vc) _ _ (by simp [Act.eval]) wr.drew (.string y) rfl HOWN.out hTGl (by simp [Act.eval]) (by have := HTL.out; omega) ?_; intro v' w' ho hg; obtain ⟨q1, q2, q3⟩ := HPUSH.out w' v' ho hg; obtain ⟨xa, xn, xc, hxf⟩ := own_form ho; subst hxf)
              all_goals
                go_wp2
                go_roundg (rs.length - (j + 1))
                case rel => exact ⟨j + 1, .slice xa xn xc, by omega, rfl, by go_num, fun h => by omega, q3, HCL'⟩
                case measure => have := HG.out; omega
          · have hje : rs.take j = rs := List.take_of_length_le (by omega)
            have HTF : Hid (Tgt w1 wr w1.heap.size sys up v rs) := by
              have := htk.out; rwa [hje] at this
            have HCL : Hid (clean rs) := by
              have := hcl.out; rwa [hje] at this
            have hRl : R < w1.heap.size := HRES.out.1
            obtain ⟨r0, r1, r2, rf⟩ := (HRES.out.grow HBR.out).cells
            have rf0 := rf 0
            have rf1 := rf 1
            have rf2 := rf 2
            clear rf
            have HPV : Hid (∀ W : World, wr.heap.size ≤ W.heap.size → (∀ g, w1.heap.size < g → W.heap[g]? = wr.heap[g]?) → PathVal W v rs ∧ ∃ a n c, v = .slice a n c) := fun W h1 h2 => HTF.out.path (fun h => HV0.out (by omega)) W h1 h2
            obtain ⟨pa, pn, pc, hv⟩ := (HPV.out wr (Nat.le_refl _) (fun _ _ => rfl)).2
            subst hv
            have t0 := HTF.out.2.2.1
            have t1 := HTF.out.2.2.2.1
            have t2 := HTF.out.2.2.2.2.1
            obtain ⟨s0, s1, s2⟩ := set3 r0 r1 r2 (.bool sys) (.int .i64 up) (.slice pa pn pc)
            clear htk hcl hje
            go_wp2
            refine bodyPost_ret (by simp [results, Tryf.results12, go_sem, s0, s1, s2]; try rfl) rfl ?_
            have hbw : Below C w wr := (below_of HB1.out HBR.out).mono (by have := HRW.out; omega)
            have hoth : ∀ g, w1.heap.size < g → (((wr.setCell ⟨R, 0, none⟩ (.bool sys)).setCell ⟨R, 1, none⟩ (.int .i64 up)).setCell ⟨R, 2, none⟩ (.slice pa pn pc)).heap[g]? = wr.heap[g]? := fun g hg => by
              rw [heap_setCell_other _ _ _ _ (by show g ≠ R; omega), heap_setCell_other _ _ _ _ (by show g ≠ R; omega), heap_setCell_other _ _ _ _ (by show g ≠ R; omega)]
            have hRe := HRW.out
            have HOT : Others C w wr := others_of (below_of HB1.out HBR.out)
            refine ⟨.inl ⟨?_, ⟨.slice pa pn pc, ?_, ?_⟩, ?_⟩, ((hbw.setCell (by show C ≤ R; omega) _).setCell (by show C ≤ R; omega) _).setCell (by show C ≤ R; omega) _, (((HOT.set (by show _ ≤ R; omega) _).set (by show _ ≤ R; omega) _).set (by show _ ≤ R; omega) _)⟩
            · rw [← hsp.out]; exact HCL.out
            · rw [← hsp.out]
            · rw [← hsp.out]
              exact (HPV.out _ (by simp [World.setCell]) hoth).1
            · have hn := HNE1.out.grow HBR.out
              refine ⟨by simpa [World.setCell] using hn.1, ?_, by simpa using hn.2.2⟩
              rw [World.cell?_setCell_other _ _ _ _ (by simp), World.cell?_setCell_other _ _ _ _ (by simp), World.cell?_setCell_other _ _ _ _ (by simp)]
              exact hn.2.1
end Go.Proofs.Qxb6613464aFmt
