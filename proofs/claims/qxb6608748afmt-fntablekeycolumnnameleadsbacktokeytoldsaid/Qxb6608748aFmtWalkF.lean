/-
  WALKS: (*Table).ColumnIndex at a name whose fold is a key.
-/
import Derived.Test.Qxb6608748aFmtWalkE
import Derived.Maps.OwnSet
import Derived.Deep.RegionWith
namespace Go.Proofs.Qxb6608748aFmt
open Go.RowKit
open Go.WideMaps
open Go.Maps (Keyed string_keyed)

theorem law9 : Keyed Tryf.prog 9 := string_keyed Tryf.underlying9
theorem zero3 (w : World) : (zeroValue 3).run Tryf.prog w = .ok (.int .i64 0) w := by kernel_rfl
theorem zero4 (w : World) : (zeroValue 4).run Tryf.prog w = .ok (.bool false) w := by kernel_rfl

/-- The map at block B leads each of the names fs to its place. -/
def IdxAt (w : World) (B n : Nat) (fs : List (List UInt8)) : Prop :=
  ∃ D : DataW Unit, w.ownsMap Tryf.prog 9 (plainElem Tryf.prog 3) B n D ∧ ∀ (i : Nat) x, fs[i]? = some x → D.atKey (.string x) (.lit (.int .i64 0)) = .lit (.int .i64 i) ∧ Maps.has D (.string x) = true

theorem below_grown {w w' : World} (h : Below w.heap.size w w') : w.grownBy w' none := ⟨h.os, h.tape, h.output, h.size, fun k hk _ => h.block k hk⟩

theorem IdxAt.below {w w' : World} {B n : Nat} {fs : List (List UInt8)} (h : IdxAt w B n fs) (hb : Below w.heap.size w w') : IdxAt w' B n fs := by
  obtain ⟨D, hown, hD⟩ := h
  exact ⟨D, hown.kept (below_grown hb) (by simp), hD⟩
theorem IdxAt.lt {w : World} {B n : Nat} {fs : List (List UInt8)} (h : IdxAt w B n fs) : B < w.heap.size := by
  obtain ⟨D, hown, hD⟩ := h; exact hown.lt
theorem key_of (x : List UInt8) (hx : x.length ≤ maxLen) : keyOf Tryf.prog 9 (.string ⟨x.toArray⟩) = some (.string x) := by
  have := keyOf_string_mk (P := Tryf.prog) (k := 9) (s := ⟨x.toArray⟩) Tryf.underlying9 (by simpa [ByteArray.size] using hx)
  simpa using this
theorem IdxAt.look {w : World} {B n : Nat} {fs : List (List UInt8)} (h : IdxAt w B n fs) {i : Nat} {x : List UInt8} (hi : fs[i]? = some x) (hx : x.length ≤ maxLen) :
    (Instr.lookup 28 (.map (some B)) (.string ⟨x.toArray⟩) true).run Tryf.prog w = .ok (.tuple #[.int .i64 i, .bool true]) w := by
  obtain ⟨D, hown, hD⟩ := h
  obtain ⟨h1, h2⟩ := hD i x hi
  have hkey := key_of x hx
  obtain ⟨v, ps, hrun, hv⟩ := hown.look_ok law9 Tryf.underlying28 (zero3 w) (plainElem_int Tryf.underlying3 (by decide)) hkey
  rw [h1] at hv
  obtain ⟨c, rfl, hc, _⟩ := plainElem_int_inv Tryf.underlying3 hv
  simp only [Prod.mk.injEq, DataW.lit.injEq, Lit.int.injEq, true_and] at hc
  rw [hrun, h2, hc.1]

theorem foldFor (tb m n : Nat) (key : Int) (x : ByteArray) (fs : List (List UInt8)) (i : Nat) (y : List UInt8) (w : World) (ht : TableAt w tb m key) (hI : IdxAt w m n fs) (hi : fs[i]? = some y) (hy : y.length ≤ maxLen)
    (hx : Lib.mapD Pl.foldR x.data.toList = y) (hs : x.size < 35184372088832) (hT : Lib.Utf8Tabs 1 2 w) :
    Calls Tryf.prog 11 #[.string x] w.drew fun e w' => e = .returned (.string ⟨y.toArray⟩) ∧ w'.cell? ⟨tb, 4, none⟩ = some (.map (some m)) ∧ (Instr.lookup 28 (.map (some m)) (.string ⟨y.toArray⟩) true).run Tryf.prog w' = .ok (.tuple #[.int .i64 i, .bool true]) w' ∧ Below w.heap.size w w' := by
  refine (foldName_any x w.drew hs hT).mono ?_
  rintro e w' ⟨he, hb⟩
  have hb' : Below w.heap.size w w' := (Below.refl _ w).drew.trans hb
  have htb : tb < w.heap.size := World.block_lt_of_cell? w _ ht.1
  exact ⟨by rw [he, hx], (hb'.cell (p := ⟨tb, 4, none⟩) htb).trans ht.1, (hI.below hb').look hi hy, hb'⟩

set_option maxHeartbeats 400000 in
theorem col_any (tb m n : Nat) (key : Int) (x : ByteArray) (fs : List (List UInt8)) (i : Nat) (y : List UInt8) (w : World) (ht : TableAt w tb m key) (hI : IdxAt w m n fs) (hi : fs[i]? = some y) (hy : y.length ≤ maxLen)
    (hx : Lib.mapD Pl.foldR x.data.toList = y) (hs : x.size < 35184372088832) (hT : Lib.Utf8Tabs 1 2 w) :
    Calls Tryf.prog 9 #[.pointer (some ⟨tb, 0, none⟩), .string x] w fun e w' => e = .returned (.tuple #[.int .i64 i, .nilIface]) ∧ Below w.heap.size w w' := by
  have HF := foldFor tb m n key x fs i y w ht hI hi hy hx hs hT
  have HF' : Hid (Calls Tryf.prog 11 #[.string x] w.drew fun e w' => e = .returned (.string ⟨y.toArray⟩) ∧ w'.cell? ⟨tb, 4, none⟩ = some (.map (some m)) ∧ (Instr.lookup 28 (.map (some m)) (.string ⟨y.toArray⟩) true).run Tryf.prog w' = .ok (.tuple #[.int .i64 i, .bool true]) w' ∧ Below w.heap.size w w') := HF
  have h4 := ht.1
  clear HF ht hI hi hy hx hs hT
  go_enter Tryf.func9, Tryf.ntmps9
  go_wp2_with fail
  go_region_with (go_at_call 11; refine HF'.out.mono ?_; rintro e w' ⟨rfl, hc, hrun, hb⟩)
  all_goals
    go_wp2
    go_ret2
    exact ⟨rfl, hb⟩
end Go.Proofs.Qxb6608748aFmt
