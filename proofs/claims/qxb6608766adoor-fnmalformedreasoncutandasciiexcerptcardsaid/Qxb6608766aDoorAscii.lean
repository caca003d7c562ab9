/-
  WALKS: appendQuotedASCII: onto a buffer of the call's own.
-/
import Derived.Test.Qxb6608766aDoorLawC
import Derived.Lib.BufSteps
import Derived.Lib.QuoteHex
import Derived.Deep.RegionLaw
namespace Go.Proofs.Qxb6608766aDoor
open Go.RowKit

theorem cells_new (w : World) (cur : Array Value) (e : TypeId) (j : Nat) (u : Value) (h : cur.toList[j]? = some u) : (w.alloc (.cells cur e)).cell? ((⟨w.heap.size, 0, none⟩ : Addr).add j) = some u := by
  rw [add_at, Nat.zero_add]
  have h' : cur[j]? = some u := by rw [← Array.getElem?_toList]; exact h
  unfold World.cell?
  rw [heap_alloc_new]
  simp [h']

theorem wpList_append_cells {P : Program} {ops : Array Oper} {rest : List Oper} {o : Oper} {a : Act} {Q : Exit → Act → World → Prop} (hgd : o.guard = none) (s x : Operand) (t : TypeId)
    (ho : o.op = .call { callee := .builtin .append, args := #[s, x], argTypes := #[t, t] })
    (B : Nat) (e : TypeId) (i : TypeInfo) (ht : P.underlying t = some (.slice e)) (hi : P.info? e = some i) (hz : i.zero = some (.int .u8 0)) (hsize : i.size = 1) (hby : i.bytes = 1)
    (v : Value) (n : Nat) (xs : List Value) (hs : a.eval s = v) (W0 w0 : World) (cur : Array Value) (hcur : ∀ u ∈ cur.toList, u.oneCell' = true) (hb : Lib.OwnBuf B e v n xs W0 w0)
    (hx : a.eval x = .slice (some ⟨w0.heap.size, 0, none⟩) cur.size cur.size) (hlen : n + cur.size ≤ 140737488355328)
    (h : ∀ v' w', Lib.OwnBuf B e v' (n + cur.size) (xs ++ cur.toList) W0 w' → wpList P ops Q rest (a.put o.dst v') w') : wpList P ops Q (o :: rest) a (w0.alloc (.cells cur e)) := by
  have hb' := hb.alloc (.cells cur e)
  refine wpList_append_ownF _ hgd s x t ho B e i (.int .u8 0) 1 1 ht hi hz hsize hby rfl (by decide) v n xs hs hb'.1 ⟨w0.heap.size, 0, none⟩ cur.size cur.size cur.toList hx (by simp) ?_ hcur (by unfold maxLen; omega) (by omega) hb'.2.2 ?_
  · exact cells_new w0 cur e
  · intro v' w' ho' hg _
    exact h v' w' (hb'.grown ho' hg)

theorem step_append_cells {P : Program} {ops : Array Oper} {o : Oper} {a : Act} {K : Act → World → Prop} {Q : Exit → Act → World → Prop} {E : Prop} (hgd : o.guard = none) (s x : Operand) (t : TypeId)
    (ho : o.op = .call { callee := .builtin .append, args := #[s, x], argTypes := #[t, t] })
    (B : Nat) (e : TypeId) (i : TypeInfo) (ht : P.underlying t = some (.slice e)) (hi : P.info? e = some i) (hz : i.zero = some (.int .u8 0)) (hsize : i.size = 1) (hby : i.bytes = 1)
    (v : Value) (n : Nat) (xs : List Value) (hs : a.eval s = v) (W0 w0 : World) (cur : Array Value) (hcur : ∀ u ∈ cur.toList, u.oneCell' = true) (hb : Lib.OwnBuf B e v n xs W0 w0)
    (hx : a.eval x = .slice (some ⟨w0.heap.size, 0, none⟩) cur.size cur.size) (hlen : n + cur.size ≤ 140737488355328)
    (h : ∀ v' w', Lib.OwnBuf B e v' (n + cur.size) (xs ++ cur.toList) W0 w' → K (a.put o.dst v') w') :
    if Region.wanted o (yielded ops a.tmps) = true then Oper.wp P o a (w0.alloc (.cells cur e)) K Q else E := by
  have hw : Region.wanted o (yielded ops a.tmps) = true := by simp [Region.wanted, hgd]
  rw [if_pos hw]
  have hb' := hb.alloc (.cells cur e)
  obtain ⟨v', w', hrun, r1, r2, _⟩ := run_append_ownF (P := P) (w0.alloc (.cells cur e)) B t o.type e i (.int .u8 0) 1 1 ht hi hz hsize hby rfl (by decide) v n xs hb'.1 ⟨w0.heap.size, 0, none⟩ cur.size cur.size cur.toList (by simp) (cells_new w0 cur e) hcur (by unfold maxLen; omega) (by omega) hb'.2.2
  unfold Oper.wp
  simp [execOp, ho, resolve, invoke, builtin, hs, hx, hrun, Result.andThen]
  exact h v' w' (hb'.grown r1 r2)

/-- What the call says: the buffer, and these bytes behind it. -/
def SaysOwn (B n : Nat) (xs : List Value) (ys : List Int) (W0 w' : World) (e : Ending) : Prop := ∃ v', e = .returned v' ∧ Lib.OwnBuf B 5 v' (n + ys.length) (xs ++ Lib.intCells ys) W0 w'

set_option maxHeartbeats 400000 in
set_option maxRecDepth 100000 in
theorem esc_named (T : Lib.PrintTabs) (c : Int) (B n : Nat) (v : Value) (xs : List Value) (W0 w : World) (hb : Lib.OwnBuf B 5 v n xs W0 w) (hn : n ≤ 1000000) (hc : c = 34 ∨ c = 92 ∨ c = 7 ∨ c = 8 ∨ c = 9 ∨ c = 10 ∨ c = 11 ∨ c = 12 ∨ c = 13) :
    Calls Tryd.prog 25 #[v, .int .u8 c] w fun e w' => SaysOwn B n xs (Lib.escRune T c) W0 w' e := by
  obtain ⟨i0, hi, hz0, hz1, hz2⟩ := info_parts infoByte
  rcases hc with rfl | rfl | rfl | rfl | rfl | rfl | rfl | rfl | rfl
  all_goals
    go_enter Tryd.func25, Tryd.ntmps25
    go_wp2_with (at_builtin; refine wpList_append_cells rfl _ _ 22 rfl B 5 i0 Tryd.underlying22 hi hz0 hz1 hz2 v n xs rfl W0 _ _ (by decide) hb rfl (by simp; omega) ?_; intro _ _ hb)
    go_ret
    refine ⟨_, rfl, ?_⟩
    simpa [Lib.intCells, Lib.escRune, Lib.isPrintR, Lib.isPrintLatin] using hb

theorem esc_low_print (T : Lib.PrintTabs) (c : Int) (h1 : 32 ≤ c) (h2 : c < 127) (h3 : c ≠ 34) (h4 : c ≠ 92) : Lib.escRune T c = [c] := by
  have hp : Lib.isPrintR T c = true := by
    unfold Lib.isPrintR Lib.isPrintLatin
    rw [if_pos (by omega)]
    simp; omega
  unfold Lib.escRune
  rw [if_neg (by omega), if_pos hp]
  unfold Lib.encodeRuneZ
  simp
  omega
theorem esc_low_hex (T : Lib.PrintTabs) (c : Int) (h1 : c < 7 ∨ 13 < c ∧ c < 32 ∨ c = 127) : Lib.escRune T c = [92, 120, Lib.hexDigit (c.toNat / 16), Lib.hexDigit (c.toNat % 16)] := by
  have hp : ¬ (Lib.isPrintR T c = true) := by
    unfold Lib.isPrintR Lib.isPrintLatin
    rw [if_pos (by omega)]
    simp; omega
  unfold Lib.escRune
  rw [if_neg (by omega), if_neg hp, if_neg (by omega), if_neg (by omega), if_neg (by omega), if_neg (by omega), if_neg (by omega), if_neg (by omega), if_neg (by omega), if_pos (by omega)]

set_option maxHeartbeats 400000 in
set_option maxRecDepth 100000 in
theorem esc_print (T : Lib.PrintTabs) (c : Int) (B n : Nat) (v : Value) (xs : List Value) (W0 w : World) (hb : Lib.OwnBuf B 5 v n xs W0 w) (hn : n ≤ 1000000) (h1 : 32 ≤ c) (h2 : c < 127) (h3 : c ≠ 34) (h4 : c ≠ 92) :
    Calls Tryd.prog 25 #[v, .int .u8 c] w fun e w' => SaysOwn B n xs (Lib.escRune T c) W0 w' e := by
  obtain ⟨i0, hi, hz0, hz1, hz2⟩ := info_parts infoByte
  rw [esc_low_print T c h1 h2 h3 h4]
  have n1 : c ≠ 7 := by omega
  have n2 : c ≠ 8 := by omega
  have n3 : c ≠ 9 := by omega
  have n4 : c ≠ 10 := by omega
  have n5 : c ≠ 11 := by omega
  have n6 : c ≠ 12 := by omega
  have n7 : c ≠ 13 := by omega
  go_enter Tryd.func25, Tryd.ntmps25
  go_wp2_with (at_builtin; refine wpList_append_cells rfl _ _ 22 rfl B 5 i0 Tryd.underlying22 hi hz0 hz1 hz2 v n xs rfl W0 _ _ (by simp; rfl) hb rfl (by simp; omega) ?_; intro _ _ hb)
  go_ret
  refine ⟨_, rfl, ?_⟩
  simpa [Lib.intCells] using hb

theorem and15 (c : Int) (h0 : 0 ≤ c) (h1 : c < 128) : bits .and .u8 c 15 = c % 16 := by
  have h : ∀ k : Fin 128, bits .and .u8 (k.val : Int) 15 = (k.val : Int) % 16 := by decide +kernel
  have := h ⟨c.toNat, by omega⟩
  have e : ((c.toNat : Nat) : Int) = c := by omega
  simpa only [e] using this

set_option maxHeartbeats 400000 in
set_option maxRecDepth 100000 in
theorem esc_hex (T : Lib.PrintTabs) (c : Int) (B n : Nat) (v : Value) (xs : List Value) (W0 w : World) (hb : Lib.OwnBuf B 5 v n xs W0 w) (hn : n ≤ 1000000) (h0 : 0 ≤ c) (h1 : c < 7 ∨ 13 < c ∧ c < 32 ∨ c = 127) :
    Calls Tryd.prog 25 #[v, .int .u8 c] w fun e w' => SaysOwn B n xs (Lib.escRune T c) W0 w' e := by
  obtain ⟨i0, hi, hz0, hz1, hz2⟩ := info_parts infoByte
  rw [esc_low_hex T c h1]
  have n8 : c ≠ 34 := by omega
  have n9 : c ≠ 92 := by omega
  have n1 : c ≠ 7 := by omega
  have n2 : c ≠ 8 := by omega
  have n3 : c ≠ 9 := by omega
  have n4 : c ≠ 10 := by omega
  have n5 : c ≠ 11 := by omega
  have n6 : c ≠ 12 := by omega
  have n7 : c ≠ 13 := by omega
  have hand := and15 c h0 (by omega)
  obtain ⟨d, hd⟩ : ∃ d, d = c % 16 := ⟨_, rfl⟩
  rw [← hd] at hand
  have hd0 : 0 ≤ d := by omega
  have hd1 : d < 16 := by omega
  have hu0 : 0 ≤ c / 16 := by omega
  have hu1 : c / 16 < 16 := by omega
  have hx1 : ∀ h, ((Lib.lowerhex[(c / 16).toNat]'h).toNat : Int) = Lib.hexDigit (c.toNat / 16) := fun h => by
    rw [Lib.lowerhex_at]; congr 1; omega
  have hx2 : ∀ h, ((Lib.lowerhex[d.toNat]'h).toNat : Int) = Lib.hexDigit (c.toNat % 16) := fun h => by
    rw [Lib.lowerhex_at]; congr 1; omega
  have h2 : c < 32 ∨ (32 ≤ c ∧ 127 ≤ c) := by omega
  clear h1 hd
  rcases h2 with h2 | ⟨h2, h3⟩
  all_goals
    go_enter Tryd.func25, Tryd.ntmps25
    go_wp2_with (at_builtin; refine wpList_append_cells rfl _ _ 22 rfl B 5 i0 Tryd.underlying22 hi hz0 hz1 hz2 v n xs rfl W0 _ _ (by simp; rfl) hb rfl (by simp; omega) ?_; intro _ _ hb)
    go_region_law (refine step_append_cells rfl (.tmp 61) (.tmp 68) 22 rfl B 5 i0 Tryd.underlying22 hi hz0 hz1 hz2 v n xs (by simp [Act.eval]) W0 _ _ (by intro u hu; simp at hu; rcases hu with rfl | rfl | rfl | rfl <;> rfl) (hb.drewN 1) (by simp [Act.eval]) (by simp; omega) ?_; intro _ _ hb)
    all_goals
      go_wp2
      all_goals
        go_ret
        refine ⟨_, rfl, ?_⟩
        simpa [Lib.intCells] using hb
end Go.Proofs.Qxb6608766aDoor
