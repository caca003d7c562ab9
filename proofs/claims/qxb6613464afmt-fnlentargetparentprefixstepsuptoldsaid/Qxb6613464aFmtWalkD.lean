/-
  WALKS: fmt.Sprintf of a text without operands; (*errorList).add.
-/
import Derived.Test.Qxb6613464aFmtWalkC
import Derived.Stop.CallBack
import Derived.Stop.IfaceNil
import Derived.Deep.RegionWith
import GoSem.ClaimData
namespace Go.Proofs.Qxb6613464aFmt
open Go.RowKit Go.Extern.Stop Go.Stop Go.Extern

/-- "parent stands only at the start of a path" -/
def onlyText : ByteArray := ⟨#[112, 97, 114, 101, 110, 116, 32, 115, 116, 97, 110, 100, 115, 32, 111, 110, 108, 121, 32, 97, 116, 32, 116, 104, 101, 32, 115, 116, 97, 114, 116, 32, 111, 102, 32, 97, 32, 112, 97, 116, 104]⟩
theorem call20 (args : Array Value) (w : World) : (callFunc 20 args).run Tryf.prog w = (FmtCalls.sprintf #[9, 74] #[9] args).run Tryf.prog w :=
  run_callFunc_next Tryf.func20 (by kernel_rfl) (by kernel_rfl) (by kernel_rfl) args w
theorem fguard (name : String) (w : World) : (FmtStop.guard name).run Tryf.prog w = .ok () w := by kernel_rfl
theorem fmt0 : FmtStop.printed? ⟨#[112, 97, 114, 101, 110, 116, 32, 115, 116, 97, 110, 100, 115, 32, 111, 110, 108, 121, 32, 97, 116, 32, 116, 104, 101, 32, 115, 116, 97, 114, 116, 32, 111, 102, 32, 97, 32, 112, 97, 116, 104]⟩ 0 = some [] := by kernel_rfl
theorem fmt0r (w : World) : (FmtDoors.printed ⟨#[112, 97, 114, 101, 110, 116, 32, 115, 116, 97, 110, 100, 115, 32, 111, 110, 108, 121, 32, 97, 116, 32, 116, 104, 101, 32, 115, 116, 97, 114, 116, 32, 111, 102, 32, 97, 32, 112, 97, 116, 104]⟩ 0).run Tryf.prog w = .ok [] w := by kernel_rfl

theorem nextTurns : Extern.next FmtCalls.turnsRow = some (FmtCalls.begun #[] #[]) := by kernel_rfl
set_option maxHeartbeats 400000 in
/-- The stop's turns, of no operand: some text, one draw. -/
theorem rows_text (F : Interp) (w : World) (R : Value → World → Prop) (hF : F.answers w.tape) (h : ∀ s, R (.string s) w.drew) :
    Rows Tryf.prog FmtCalls.turnsRow (FmtCalls.save 0 0 (.slice none 0 0) onlyText [] []) w R := by
  have hF' := answers_open hF
  unfold onlyText
  apply rows_value nextTurns
  case hr =>
    go_simp
    exact ⟨rfl, rfl⟩
  case h => exact h _

theorem cell_alloc {w : World} {C k : Nat} {v : Value} (hC : C < w.heap.size) (h : w.cell? ⟨C, k, none⟩ = some v) (o : Obj) : (w.alloc o).cell? ⟨C, k, none⟩ = some v :=
  (((Below.refl w.heap.size w).alloc (Nat.le_refl _) o).cell (p := ⟨C, k, none⟩) hC).trans h
theorem frozen_alloc {w : World} {C k : Nat} {v : Bool} (hC : C < w.heap.size) (h : w.frozen? ⟨C, k, none⟩ = v) (o : Obj) : (w.alloc o).frozen? ⟨C, k, none⟩ = v :=
  (World.frozen?_of_block (((Below.refl w.heap.size w).alloc (Nat.le_refl _) o).block C hC)).trans h
theorem lt_alloc {w : World} {C : Nat} (hC : C < w.heap.size) (o : Obj) : C < (w.alloc o).heap.size := Nat.lt_of_lt_of_le hC ((Below.refl 0 w).alloc (Nat.zero_le _) o).size

/-- The compiler at block C bears one error. -/
def OneErr (C : Nat) (w : World) : Prop := ∃ x c, w.cell? ⟨C, 19, none⟩ = some (.slice x 1 c)
/-- Every block but C that was there is as it was. -/
def Others (C : Nat) (w w' : World) : Prop := w.heap.size ≤ w'.heap.size ∧ ∀ k, k < w.heap.size → k ≠ C → w'.heap[k]? = w.heap[k]?
theorem added {w : World} {C : Nat} {u : Value} (hC : C < w.heap.size) (h : w.cell? ⟨C, 19, none⟩ = some u) (o1 o2 o3 o4 : Obj) (x : Option Addr) (c : Nat) :
    OneErr C (((((w.alloc o1).alloc o2).alloc o3).alloc o4).setCell ⟨C, 19, none⟩ (.slice x 1 c)).drew.drew.drew ∧
    Below C w (((((w.alloc o1).alloc o2).alloc o3).alloc o4).setCell ⟨C, 19, none⟩ (.slice x 1 c)).drew.drew.drew ∧
    Others C w (((((w.alloc o1).alloc o2).alloc o3).alloc o4).setCell ⟨C, 19, none⟩ (.slice x 1 c)).drew.drew.drew := by
  have l1 := lt_alloc hC o1
  have l2 := lt_alloc l1 o2
  have l3 := lt_alloc l2 o3
  have c4 := cell_alloc l3 (cell_alloc l2 (cell_alloc l1 (cell_alloc hC h o1) o2) o3) o4
  have hb : Below w.heap.size w ((((w.alloc o1).alloc o2).alloc o3).alloc o4) := ((((Below.refl _ w).alloc (Nat.le_refl _) o1).alloc (by simp) o2).alloc (by simp; omega) o3).alloc (by simp; omega) o4
  refine ⟨⟨x, c, ?_⟩, ?_, ?_, fun k hk hne => ?_⟩
  · show World.cell? (World.setCell _ _ _) _ = _
    exact World.cell?_setCell_same _ _ _ c4
  · exact ((((((((Below.refl C w).alloc (Nat.le_of_lt hC) o1).alloc (Nat.le_of_lt l1) o2).alloc (Nat.le_of_lt l2) o3).alloc (Nat.le_of_lt l3) o4).setCell (Nat.le_refl _) _).drew).drew).drew
  · show w.heap.size ≤ (World.setCell _ _ _).heap.size
    have := hb.size
    simpa [World.setCell] using this
  · show (World.setCell _ _ _).heap[k]? = _
    rw [heap_setCell_other _ _ _ _ hne]
    exact hb.block k hk

set_option maxHeartbeats 800000 in
set_option maxRecDepth 100000 in
theorem add_text (F : Interp) (C : Nat) (w : World) (hF : F.answers w.tape) (hC : C < w.heap.size) (hc : w.cell? ⟨C, 19, none⟩ = some (.slice none 0 0)) (hf : w.frozen? ⟨C, 19, none⟩ = false) :
    Calls Tryf.prog 18 #[.pointer (some ⟨C, 19, none⟩), pos0, .string onlyText, .slice none 0 0] w fun e w' => e = .returned (.tuple #[]) ∧ OneErr C w' ∧ Below C w w' ∧ Others C w w' := by
  have h1 := fguard
  have h2 := fmt0r
  have h3 := fmt0
  have h4 := call20
  have HR : Hid (∀ (w1 : World) R, w1.tape = w.tape → (∀ s, R (.string s) w1.drew) → Rows Tryf.prog FmtCalls.turnsRow (FmtCalls.save 0 0 (.slice none 0 0) onlyText [] []) w1 R) := fun w1 R ht h => rows_text F w1 R (by rw [ht]; exact hF) h
  have hc1 : ∀ o1, (w.alloc o1).cell? ⟨C, 19, none⟩ = some (.slice none 0 0) := fun o1 => cell_alloc hC hc o1
  have hc2 : ∀ o1 o2, ((w.alloc o1).alloc o2).cell? ⟨C, 19, none⟩ = some (.slice none 0 0) := fun o1 o2 => cell_alloc (lt_alloc hC o1) (cell_alloc hC hc o1) o2
  have hc3 : ∀ o1 o2 o3, (((w.alloc o1).alloc o2).alloc o3).cell? ⟨C, 19, none⟩ = some (.slice none 0 0) := fun o1 o2 o3 =>
    cell_alloc (lt_alloc (lt_alloc hC o1) o2) (cell_alloc (lt_alloc hC o1) (cell_alloc hC hc o1) o2) o3
  have hc4 : ∀ o1 o2 o3 o4, ((((w.alloc o1).alloc o2).alloc o3).alloc o4).cell? ⟨C, 19, none⟩ = some (.slice none 0 0) := fun o1 o2 o3 o4 =>
    cell_alloc (lt_alloc (lt_alloc (lt_alloc hC o1) o2) o3) (cell_alloc (lt_alloc (lt_alloc hC o1) o2) (cell_alloc (lt_alloc hC o1) (cell_alloc hC hc o1) o2) o3) o4
  have hf4 : ∀ o1 o2 o3 o4, ((((w.alloc o1).alloc o2).alloc o3).alloc o4).frozen? ⟨C, 19, none⟩ = false := fun o1 o2 o3 o4 =>
    frozen_alloc (lt_alloc (lt_alloc (lt_alloc hC o1) o2) o3) (frozen_alloc (lt_alloc (lt_alloc hC o1) o2) (frozen_alloc (lt_alloc hC o1) (frozen_alloc hC hf o1) o2) o3) o4
  have hby : Tryf.t75.bytes = 8 := by kernel_rfl
  have hnc : Builtin.nextslicecap 1 0 = 1 := by kernel_rfl
  unfold onlyText at HR ⊢
  unfold pos0
  go_enter Tryf.func18, Tryf.ntmps18
  go_wp2
  go_region_with (refine HR.out _ _ rfl ?_; intro s)
  all_goals
    go_end0
    exact ⟨rfl, added hC hc _ _ _ _ _ _⟩
end Go.Proofs.Qxb6613464aFmt
