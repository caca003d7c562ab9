/-
  WALKS: the small ones.
-/
import Derived.Test.Qxb6613464aFmtChecked
import Derived.WalkKit
import Derived.WalkSpells
import Derived.WalkLawsBesides
import Derived.Deep.QuietTactic
import Derived.BigQuiet
import Derived.Below
namespace Go.Proofs.Qxb6613464aFmt
open Go.RowKit

/-- The zero position. -/
def pos0 : Value := .agg #[.string ⟨#[]⟩, .int .i64 0, .int .i64 0]
/-- The cells of a new compiler. -/
def comp0 : Array Value := #[.nilFunc, .map none, .map none, .map none, .map none, .map none, .map none, .map none, .map none, .map none, .map none, .map none, .slice none 0 0, .map none, .slice none 0 0, .map none, .slice none 0 0, .map none, .map none, .slice none 0 0]
theorem newComp (w : World) : Calls Tryf.prog 6 #[] w fun e w' => e = .returned (.pointer (some ⟨w.heap.size, 0, none⟩)) ∧ w' = w.alloc (.cells comp0 57) := by
  go_enter Tryf.func6, Tryf.ntmps6
  go_wp2
  go_ret
  exact ⟨rfl, rfl⟩
/-- The cells of a new term. -/
def term0 (k : Int) (nm : ByteArray) : Array Value := #[.string ⟨#[]⟩, .int .i64 0, .int .i64 0, .int .i64 k, .string nm, .int .u64 0, .string ⟨#[]⟩, .slice none 0 0]
theorem newTerm (k : Int) (nm : ByteArray) (w : World) : Calls Tryf.prog 13 #[pos0, .int .i64 k, .string nm, .int .u64 0, .string ⟨#[]⟩] w fun e w' => e = .returned (.pointer (some ⟨w.heap.size + 1, 0, none⟩)) ∧ w' = (w.alloc (.cells #[.string ⟨#[]⟩, .int .i64 0, .int .i64 0] 61)).alloc (.cells (term0 k nm) 69) := by
  unfold pos0
  go_enter Tryf.func13, Tryf.ntmps13
  go_wp2
  go_ret
  exact ⟨rfl, rfl⟩
theorem errs_at (C : Nat) (v : Value) (w : World) (h : w.cell? ⟨C, 19, none⟩ = some v) : Calls Tryf.prog 9 #[.pointer (some ⟨C, 0, none⟩)] w fun e w' => e = .returned v ∧ w' = w := by
  go_enter Tryf.func9, Tryf.ntmps9
  go_wp2
  go_ret
  exact ⟨rfl, rfl⟩
theorem infoPtr : (Tryf.prog.info? 31).map (fun i => (i.zero, i.size, i.bytes)) = some (some (.pointer none), 1, 8) := by kernel_rfl
set_option maxHeartbeats 400000 in
theorem setArgs (b n : Nat) (w : World) (v : Value) (hn : n ≤ 2097152) (hb : b < w.heap.size) (h : w.cell? ⟨b, 7, none⟩ = some v) (hf : w.frozen? ⟨b, 7, none⟩ = false) : Calls Tryf.prog 14 #[.pointer (some ⟨b, 0, none⟩), .int .i64 n] w fun e w' => e = .returned (.tuple #[]) ∧ w' = (w.setCell ⟨b, 7, none⟩ (.slice (some ⟨w.heap.size, 0, none⟩) n n)).alloc (.cells (madeCells #[.pointer none] n) 31) := by
  obtain ⟨i0, hi, hz0, hz1, hz2⟩ := info_parts infoPtr
  have hmk := run_makeSlice (P := Tryf.prog) (w := w) 65 31 i0 _ Tryf.underlying65 hi hz0 .i64 .i64 (n : Int) (n : Int) (by omega) (by omega) (by rw [hz1]; omega) (by rw [hz2]; omega) (by omega)
  rw [hz1] at hmk
  clear hi hz0 hz1 hz2
  go_enter Tryf.func14, Tryf.ntmps14
  go_wp2
  go_end0
  exact ⟨rfl, rfl⟩
theorem setArg (b n c : Nat) (i : Nat) (ad : Nat) (x : Option Addr) (v : Value) (w : World) (h : w.cell? ⟨b, 7, none⟩ = some (.slice (some ⟨ad, 0, none⟩) n c)) (hi : i < n) (h2 : w.cell? ⟨ad, i, none⟩ = some v) (hf : w.frozen? ⟨ad, i, none⟩ = false) : Calls Tryf.prog 15 #[.pointer (some ⟨b, 0, none⟩), .int .i64 i, .pointer x] w fun e w' => e = .returned (.tuple #[]) ∧ w' = w.setCell ⟨ad, i, none⟩ (.pointer x) := by
  go_enter Tryf.func15, Tryf.ntmps15
  go_wp2
  go_end0
  exact ⟨rfl, rfl⟩
theorem steps_path (b n c : Nat) (ad : Nat) (w : World) (hk : w.cell? ⟨b, 3, none⟩ = some (.int .i64 3)) (h : w.cell? ⟨b, 7, none⟩ = some (.slice (some ⟨ad, 0, none⟩) n c)) : Calls Tryf.prog 16 #[.pointer (some ⟨b, 0, none⟩)] w fun e w' => e = .returned (.slice (some ⟨ad, 0, none⟩) n c) ∧ w' = w := by
  go_enter Tryf.func16, Tryf.ntmps16
  go_wp2
  go_ret
  exact ⟨rfl, rfl⟩
theorem steps_one (b : Nat) (w : World) (hk : w.cell? ⟨b, 3, none⟩ = some (.int .i64 0)) : Calls Tryf.prog 16 #[.pointer (some ⟨b, 0, none⟩)] w fun e w' => e = .returned (.slice (some ⟨w.heap.size, 0, none⟩) 1 1) ∧ w' = w.alloc (.cells #[.pointer (some ⟨b, 0, none⟩)] 31) := by
  go_enter Tryf.func16, Tryf.ntmps16
  go_wp2
  go_ret
  exact ⟨rfl, rfl⟩

/-- A term that is a bare name lies at block b. -/
def NameAt (w : World) (b : Nat) (nm : ByteArray) : Prop := b < w.heap.size ∧ w.cell? ⟨b, 0, none⟩ = some (.string ⟨#[]⟩) ∧ w.cell? ⟨b, 1, none⟩ = some (.int .i64 0) ∧ w.cell? ⟨b, 2, none⟩ = some (.int .i64 0) ∧ w.cell? ⟨b, 3, none⟩ = some (.int .i64 0) ∧ w.cell? ⟨b, 4, none⟩ = some (.string nm) ∧ w.cell? ⟨b, 7, none⟩ = some (.slice none 0 0)
theorem NameAt.same {w w' : World} {b : Nat} {nm : ByteArray} (h : NameAt w b nm) (hs : w.heap.size ≤ w'.heap.size) (hb : w'.heap[b]? = w.heap[b]?) : NameAt w' b nm := by
  obtain ⟨h0, h1, h2, h3, h4, h5, h6⟩ := h
  have e : ∀ k, w'.cell? ⟨b, k, none⟩ = w.cell? ⟨b, k, none⟩ := fun k => World.cell?_of_block hb
  exact ⟨Nat.lt_of_lt_of_le h0 hs, (e 0).trans h1, (e 1).trans h2, (e 2).trans h3, (e 3).trans h4, (e 4).trans h5, (e 7).trans h6⟩
theorem NameAt.below {w w' : World} {B b : Nat} {nm : ByteArray} (h : NameAt w b nm) (hB : b < B) (hb : Below B w w') : NameAt w' b nm := h.same hb.size (hb.block b hB)
/-- The cells of a block that was just laid. -/
theorem new_cell (w : World) (cur : Array Value) (e : TypeId) (k : Nat) : (w.alloc (.cells cur e)).cell? ⟨w.heap.size, k, none⟩ = cur[k]? := by
  unfold World.cell?
  rw [heap_alloc_new]
  simp
theorem nameAt_new (w : World) (nm : ByteArray) : NameAt (w.alloc (.cells (term0 0 nm) 69)) w.heap.size nm :=
  ⟨by simp, new_cell _ _ _ _, new_cell _ _ _ _, new_cell _ _ _ _, new_cell _ _ _ _, new_cell _ _ _ _, new_cell _ _ _ _⟩

/-- The strings of ns lie in a row. -/
def StrsAt (w : World) (b off : Nat) (ns : List ByteArray) : Prop := ∀ j (h : j < ns.length), w.cell? ⟨b, off + j, none⟩ = some (.string ns[j])
theorem StrsAt.below {w w' : World} {B b off : Nat} {ns : List ByteArray} (h : StrsAt w b off ns) (hB : b < B) (hb : Below B w w') : StrsAt w' b off ns := fun j hj => (hb.cell (p := ⟨b, off + j, none⟩) hB).trans (h j hj)
theorem StrsAt.drop {w : World} {b off : Nat} {ns : List ByteArray} (h : StrsAt w b off ns) (k : Nat) : StrsAt w b (off + k) (ns.drop k) := fun j hj => by
  rw [List.length_drop] at hj
  rw [List.getElem_drop, Nat.add_assoc]
  exact h (k + j) (by omega)
theorem below_of {W w1 w2 : World} (h : Below W.heap.size W w1) (hb : Below w1.heap.size w1 w2) : Below W.heap.size W w2 := h.trans (hb.mono h.size)
end Go.Proofs.Qxb6613464aFmt
