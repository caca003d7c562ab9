/-
  WALKS: the table: ZZNewTable, Key.
-/
import Derived.Test.Qxb6608748aFmtWalkD
import Derived.Test.Qxb6608748aFmtShelf
namespace Go.Proofs.Qxb6608748aFmt
open Go.RowKit
def Z61 : Array Value := #[.pointer none, .int .u64 0, .string ⟨#[]⟩, .slice none 0 0, .map none, .int .i64 0, .int .u32 0, .pointer none, .int .u8 0] ++ Array.replicate 64 (.int .u8 0) ++ #[.int .i64 0] ++ Array.replicate 64 (.int .u8 0)
theorem zero61 (w : World) : (zeroValue 61).run Tryf.prog w = .ok (.agg Z61) w := by kernel_rfl
theorem size61 : Z61.size = 138 := by kernel_rfl
/-- A table lies at the head of block tb: its column index is the map at block m, its key is key. -/
def TableAt (w : World) (tb m : Nat) (key : Int) : Prop :=
  w.cell? ⟨tb, 4, none⟩ = some (.map (some m)) ∧ w.cell? ⟨tb, 5, none⟩ = some (.int .i64 key)

set_option maxHeartbeats 400000 in
set_option maxRecDepth 100000 in
theorem newTable (nm : ByteArray) (a : Option Addr) (n cap m : Nat) (key : Int) (w : World) :
    Calls Tryf.prog 7 #[.string nm, .slice a n cap, .map (some m), .int .i64 key] w fun e w' => e = .returned (.pointer (some ⟨w.heap.size, 0, none⟩)) ∧ TableAt w' w.heap.size m key ∧ Below w.heap.size w w' := by
  have hz := zero61
  have hzs := size61
  go_enter Tryf.func7, Tryf.ntmps7
  go_wp2
  go_ret
  refine ⟨rfl, ?_, (Below.refl _ _).alloc (Nat.le_refl _) _⟩
  clear hz
  refine ⟨?_, ?_⟩
  · rw [World.cell?_alloc_mark]
    simp [hzs]
  · rw [World.cell?_alloc_mark]
    simp [hzs]

set_option maxHeartbeats 400000 in
theorem key_any (tb m : Nat) (key : Int) (w : World) (h : TableAt w tb m key) :
    Calls Tryf.prog 8 #[.pointer (some ⟨tb, 0, none⟩)] w fun e w' => e = .returned (.int .i64 key) ∧ w' = w := by
  obtain ⟨h4, h5⟩ := h
  go_enter Tryf.func8, Tryf.ntmps8
  go_wp2
  go_ret
  exact ⟨rfl, rfl⟩

set_option maxHeartbeats 400000 in
theorem foldRune (x : Nat) (hx : x ≤ 1114111) (w : World) :
    Calls Tryf.prog 14 #[.int .i32 x] w fun e w' => e = .returned (.int .i32 (Pl.foldR x)) ∧ w' = w := by
  rcases (by omega : (x : Int) < 65 ∨ (65 ≤ (x : Int) ∧ 90 < (x : Int)) ∨ (65 ≤ (x : Int) ∧ (x : Int) ≤ 90)) with h | ⟨h, h'⟩ | ⟨h, h'⟩
  · have e : Pl.foldR x = x := by unfold Pl.foldR; rw [if_neg (by omega)]
    rw [e]
    clear e
    go_enter Tryf.func14, Tryf.ntmps14
    go_wp2
    go_ret
    exact ⟨rfl, rfl⟩
  · have e : Pl.foldR x = x := by unfold Pl.foldR; rw [if_neg (by omega)]
    rw [e]
    clear e
    go_enter Tryf.func14, Tryf.ntmps14
    go_wp2
    go_ret
    exact ⟨rfl, rfl⟩
  · have e : Pl.foldR x = (x : Int) - 65 + 97 := by unfold Pl.foldR; rw [if_pos ⟨h, h'⟩]
    rw [e]
    clear e
    go_enter Tryf.func14, Tryf.ntmps14
    go_wp2
    go_ret
    exact ⟨rfl, rfl⟩

theorem enters14 : ∀ args w, (callFunc 14 args).run Tryf.prog w = .ok (.enter 14 args) w := enters_of Tryf.func14 (by kernel_rfl) rfl
theorem foldR_bd (x : Nat) (hx : x ≤ 1114111) : -2147483648 ≤ Pl.foldR x ∧ Pl.foldR x ≤ 2147483647 := by
  unfold Pl.foldR; split <;> omega

set_option maxHeartbeats 400000 in
theorem foldName_any (s : ByteArray) (w : World) (hs : s.size < 35184372088832) (hT : Lib.Utf8Tabs 1 2 w) :
    Calls Tryf.prog 11 #[.string s] w fun e w' => e = .returned (.string ⟨(Lib.mapD Pl.foldR s.data.toList).toArray⟩) ∧ Below w.heap.size w w' := by
  go_enter Tryf.func11, Tryf.ntmps11
  go_wp2_with fail
  refine (Tryf.strings_Map_grows 14 #[] enters14 Pl.foldR s w hs (fun W x hx _ => (foldRune x hx W).mono fun e w' ⟨he, hw⟩ => ⟨he, hw ▸ Below.refl _ _⟩) foldR_bd hT).mono ?_
  rintro e w' ⟨rfl, hb⟩
  go_wp2
  go_ret
  exact ⟨rfl, hb⟩
end Go.Proofs.Qxb6608748aFmt
