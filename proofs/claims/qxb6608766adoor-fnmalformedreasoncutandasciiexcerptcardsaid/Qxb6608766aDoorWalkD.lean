/-
  WALKS: utf8.FullRune.
-/
import Derived.Test.Qxb6608766aDoorWalkC
import Derived.Shelf.Unicode.DecodeSlow
namespace Go.Proofs.Qxb6608766aDoor
open Go.RowKit

/-- The bytes of t lie in block B from off on. -/
def BytesOff (w : World) (B off : Nat) (t : List UInt8) : Prop := ∀ j (h : j < t.length), w.cell? ⟨B, off + j, none⟩ = some (.int .u8 (t[j].toNat : Int))
theorem ret_bool {a b : Bool} (h : a = b) : Ending.returned (.bool a) = .returned (.bool b) := by rw [h]

def nine (X : Nat) : Prop := X = 240 ∨ X = 241 ∨ X = 2 ∨ X = 19 ∨ X = 3 ∨ X = 35 ∨ X = 52 ∨ X = 4 ∨ X = 68
theorem bdN {B : Nat} {a w : World} (h : Below B a w) (q : Nat) : Below B a (w.drewN q) := ⟨h.os, h.tape, h.output, h.size, h.block⟩

set_option maxHeartbeats 1600000 in
set_option maxRecDepth 100000 in
theorem full_yes (B off n cap : Nat) (c0 : Nat) (X : Nat) (w : World) (hn : 1 ≤ n) (hn' : n ≤ 1048576) (h0 : w.cell? ⟨B, off, none⟩ = some (.int .u8 c0)) (hc : c0 < 256) (hf : w.cell? ⟨3, c0, none⟩ = some (.int .u8 X))
    (lo hi : Int) (hlo : w.cell? ⟨4, 2 * (X / 16), none⟩ = some (.int .u8 lo)) (hhi : w.cell? ⟨4, 2 * (X / 16) + 1, none⟩ = some (.int .u8 hi)) (hX : nine X) (hle : X % 8 ≤ n) :
    Calls Tryd.prog 38 #[.slice (some ⟨B, off, none⟩) n cap] w fun e w' => e = .returned (.bool true) ∧ Below w.heap.size w w' := by
  have hnz : ((n : Int) == 0) = false := by simp; omega
  have hp : (0 : Int) < (n : Int) := by omega
  rcases hX with rfl | rfl | rfl | rfl | rfl | rfl | rfl | rfl | rfl
  all_goals
    first
    | (exfalso; omega)
    | (simp only [Nat.reduceDiv, Nat.reduceMul, Nat.reduceAdd, Nat.reduceMod] at hlo hhi hle
       go_enter Tryd.func38, Tryd.ntmps38
       go_wp2_with fail
       go_ret
       exact ⟨rfl, Below.refl _ _⟩)

set_option maxHeartbeats 1600000 in
set_option maxRecDepth 100000 in
theorem full_short (B off n cap : Nat) (c0 : Nat) (X : Nat) (w : World) (hn : 1 ≤ n) (hn' : n ≤ 1048576) (h0 : w.cell? ⟨B, off, none⟩ = some (.int .u8 c0)) (hc : c0 < 256) (hf : w.cell? ⟨3, c0, none⟩ = some (.int .u8 X))
    (lo hi : Int) (hlo : w.cell? ⟨4, 2 * (X / 16), none⟩ = some (.int .u8 lo)) (hhi : w.cell? ⟨4, 2 * (X / 16) + 1, none⟩ = some (.int .u8 hi)) (hX : nine X) (hlt : n < X % 8) (h1 : (n : Int) ≤ 1) :
    Calls Tryd.prog 38 #[.slice (some ⟨B, off, none⟩) n cap] w fun e w' => e = .returned (.bool false) ∧ Below w.heap.size w w' := by
  have hnz : ((n : Int) == 0) = false := by simp; omega
  have hp : (0 : Int) < (n : Int) := by omega
  have h1d : decide ((1 : Int) < (n : Int)) = false := decide_eq_false (by omega)
  have h2d : decide ((2 : Int) < (n : Int)) = false := decide_eq_false (by omega)
  rcases hX with rfl | rfl | rfl | rfl | rfl | rfl | rfl | rfl | rfl
  all_goals
    first
    | (exfalso; omega)
    | (simp only [Nat.reduceDiv, Nat.reduceMul, Nat.reduceAdd, Nat.reduceMod] at hlo hhi hlt
       go_enter Tryd.func38, Tryd.ntmps38
       go_wp2_with fail
       go_quiet (fail)
       go_wp2
       go_ret
       exact ⟨rfl, bdN ((Below.refl _ _).alloc (Nat.le_refl _) _) _⟩)

set_option maxHeartbeats 1600000 in
set_option maxRecDepth 100000 in
theorem full_low (B off n cap : Nat) (c0 : Nat) (X : Nat) (w : World) (hn : 1 ≤ n) (hn' : n ≤ 1048576) (h0 : w.cell? ⟨B, off, none⟩ = some (.int .u8 c0)) (hc : c0 < 256) (hf : w.cell? ⟨3, c0, none⟩ = some (.int .u8 X))
    (lo hi : Int) (hlo : w.cell? ⟨4, 2 * (X / 16), none⟩ = some (.int .u8 lo)) (hhi : w.cell? ⟨4, 2 * (X / 16) + 1, none⟩ = some (.int .u8 hi)) (hX : nine X) (hB : B < w.heap.size) (c1 : Int) (h1 : w.cell? ⟨B, off + 1, none⟩ = some (.int .u8 c1)) (hlt : n < X % 8) (h2n : (1 : Int) < (n : Int)) (hl : c1 < lo) :
    Calls Tryd.prog 38 #[.slice (some ⟨B, off, none⟩) n cap] w fun e w' => e = .returned (.bool true) ∧ Below w.heap.size w w' := by
  have hnz : ((n : Int) == 0) = false := by simp; omega
  have hp : (0 : Int) < (n : Int) := by omega
  have h1a : ∀ o : Obj, (w.alloc o).cell? ⟨B, off + 1, none⟩ = some (.int .u8 c1) := fun o => (Below.cell ((Below.refl _ w).alloc (Nat.le_refl _) o) (p := ⟨B, off + 1, none⟩) hB).trans h1
  rcases hX with rfl | rfl | rfl | rfl | rfl | rfl | rfl | rfl | rfl
  all_goals
    first
    | (exfalso; omega)
    | (simp only [Nat.reduceDiv, Nat.reduceMul, Nat.reduceAdd, Nat.reduceMod] at hlo hhi hlt
       go_enter Tryd.func38, Tryd.ntmps38
       go_wp2_with fail
       go_quiet (fail)
       go_wp2
       go_ret
       exact ⟨rfl, bdN ((Below.refl _ _).alloc (Nat.le_refl _) _) _⟩)

set_option maxHeartbeats 1600000 in
set_option maxRecDepth 100000 in
theorem full_high (B off n cap : Nat) (c0 : Nat) (X : Nat) (w : World) (hn : 1 ≤ n) (hn' : n ≤ 1048576) (h0 : w.cell? ⟨B, off, none⟩ = some (.int .u8 c0)) (hc : c0 < 256) (hf : w.cell? ⟨3, c0, none⟩ = some (.int .u8 X))
    (lo hi : Int) (hlo : w.cell? ⟨4, 2 * (X / 16), none⟩ = some (.int .u8 lo)) (hhi : w.cell? ⟨4, 2 * (X / 16) + 1, none⟩ = some (.int .u8 hi)) (hX : nine X) (hB : B < w.heap.size) (c1 : Int) (h1 : w.cell? ⟨B, off + 1, none⟩ = some (.int .u8 c1)) (hlt : n < X % 8) (h2n : (1 : Int) < (n : Int)) (hl : lo ≤ c1) (hh : hi < c1) :
    Calls Tryd.prog 38 #[.slice (some ⟨B, off, none⟩) n cap] w fun e w' => e = .returned (.bool true) ∧ Below w.heap.size w w' := by
  have hnz : ((n : Int) == 0) = false := by simp; omega
  have hp : (0 : Int) < (n : Int) := by omega
  have h1a : ∀ o : Obj, (w.alloc o).cell? ⟨B, off + 1, none⟩ = some (.int .u8 c1) := fun o => (Below.cell ((Below.refl _ w).alloc (Nat.le_refl _) o) (p := ⟨B, off + 1, none⟩) hB).trans h1
  have hld : decide (c1 < lo) = false := decide_eq_false (by omega)
  rcases hX with rfl | rfl | rfl | rfl | rfl | rfl | rfl | rfl | rfl
  all_goals
    first
    | (exfalso; omega)
    | (simp only [Nat.reduceDiv, Nat.reduceMul, Nat.reduceAdd, Nat.reduceMod] at hlo hhi hlt
       go_enter Tryd.func38, Tryd.ntmps38
       go_wp2_with fail
       go_quiet (fail)
       go_wp2
       go_ret
       exact ⟨rfl, bdN ((Below.refl _ _).alloc (Nat.le_refl _) _) _⟩)

set_option maxHeartbeats 1600000 in
set_option maxRecDepth 100000 in
theorem full_two (B off n cap : Nat) (c0 : Nat) (X : Nat) (w : World) (hn : 1 ≤ n) (hn' : n ≤ 1048576) (h0 : w.cell? ⟨B, off, none⟩ = some (.int .u8 c0)) (hc : c0 < 256) (hf : w.cell? ⟨3, c0, none⟩ = some (.int .u8 X))
    (lo hi : Int) (hlo : w.cell? ⟨4, 2 * (X / 16), none⟩ = some (.int .u8 lo)) (hhi : w.cell? ⟨4, 2 * (X / 16) + 1, none⟩ = some (.int .u8 hi)) (hX : nine X) (hB : B < w.heap.size) (c1 : Int) (h1 : w.cell? ⟨B, off + 1, none⟩ = some (.int .u8 c1)) (hlt : n < X % 8) (h2n : (1 : Int) < (n : Int)) (h3n : (n : Int) ≤ 2) (hl : lo ≤ c1) (hh : c1 ≤ hi) :
    Calls Tryd.prog 38 #[.slice (some ⟨B, off, none⟩) n cap] w fun e w' => e = .returned (.bool false) ∧ Below w.heap.size w w' := by
  have hnz : ((n : Int) == 0) = false := by simp; omega
  have hp : (0 : Int) < (n : Int) := by omega
  have h1a : ∀ o : Obj, (w.alloc o).cell? ⟨B, off + 1, none⟩ = some (.int .u8 c1) := fun o => (Below.cell ((Below.refl _ w).alloc (Nat.le_refl _) o) (p := ⟨B, off + 1, none⟩) hB).trans h1
  have hld : decide (c1 < lo) = false := decide_eq_false (by omega)
  have hhd : decide (hi < c1) = false := decide_eq_false (by omega)
  have h2d : decide ((2 : Int) < (n : Int)) = false := decide_eq_false (by omega)
  rcases hX with rfl | rfl | rfl | rfl | rfl | rfl | rfl | rfl | rfl
  all_goals
    first
    | (exfalso; omega)
    | (simp only [Nat.reduceDiv, Nat.reduceMul, Nat.reduceAdd, Nat.reduceMod] at hlo hhi hlt
       go_enter Tryd.func38, Tryd.ntmps38
       go_wp2_with fail
       go_quiet (fail)
       go_wp2
       go_ret
       exact ⟨rfl, bdN ((Below.refl _ _).alloc (Nat.le_refl _) _) _⟩)

set_option maxHeartbeats 1600000 in
set_option maxRecDepth 100000 in
theorem full_three_low (B off n cap : Nat) (c0 : Nat) (X : Nat) (w : World) (hn : 1 ≤ n) (hn' : n ≤ 1048576) (h0 : w.cell? ⟨B, off, none⟩ = some (.int .u8 c0)) (hc : c0 < 256) (hf : w.cell? ⟨3, c0, none⟩ = some (.int .u8 X))
    (lo hi : Int) (hlo : w.cell? ⟨4, 2 * (X / 16), none⟩ = some (.int .u8 lo)) (hhi : w.cell? ⟨4, 2 * (X / 16) + 1, none⟩ = some (.int .u8 hi)) (hX : nine X) (hB : B < w.heap.size) (c1 : Int) (h1 : w.cell? ⟨B, off + 1, none⟩ = some (.int .u8 c1)) (hlt : n < X % 8) (c2 : Int) (h2 : w.cell? ⟨B, off + 2, none⟩ = some (.int .u8 c2)) (h2n : (1 : Int) < (n : Int)) (h3n : (2 : Int) < (n : Int)) (hl : lo ≤ c1) (hh : c1 ≤ hi) (hc2 : c2 < 128) :
    Calls Tryd.prog 38 #[.slice (some ⟨B, off, none⟩) n cap] w fun e w' => e = .returned (.bool true) ∧ Below w.heap.size w w' := by
  have hnz : ((n : Int) == 0) = false := by simp; omega
  have hp : (0 : Int) < (n : Int) := by omega
  have h1a : ∀ o : Obj, (w.alloc o).cell? ⟨B, off + 1, none⟩ = some (.int .u8 c1) := fun o => (Below.cell ((Below.refl _ w).alloc (Nat.le_refl _) o) (p := ⟨B, off + 1, none⟩) hB).trans h1
  have h2a : ∀ o : Obj, (w.alloc o).cell? ⟨B, off + 2, none⟩ = some (.int .u8 c2) := fun o => (Below.cell ((Below.refl _ w).alloc (Nat.le_refl _) o) (p := ⟨B, off + 2, none⟩) hB).trans h2
  have hld : decide (c1 < lo) = false := decide_eq_false (by omega)
  have hhd : decide (hi < c1) = false := decide_eq_false (by omega)
  rcases hX with rfl | rfl | rfl | rfl | rfl | rfl | rfl | rfl | rfl
  all_goals
    first
    | (exfalso; omega)
    | (simp only [Nat.reduceDiv, Nat.reduceMul, Nat.reduceAdd, Nat.reduceMod] at hlo hhi hlt
       go_enter Tryd.func38, Tryd.ntmps38
       go_wp2_with fail
       go_quiet (fail)
       go_wp2
       go_ret
       exact ⟨rfl, bdN ((Below.refl _ _).alloc (Nat.le_refl _) _) _⟩)

set_option maxHeartbeats 1600000 in
set_option maxRecDepth 100000 in
theorem full_three_high (B off n cap : Nat) (c0 : Nat) (X : Nat) (w : World) (hn : 1 ≤ n) (hn' : n ≤ 1048576) (h0 : w.cell? ⟨B, off, none⟩ = some (.int .u8 c0)) (hc : c0 < 256) (hf : w.cell? ⟨3, c0, none⟩ = some (.int .u8 X))
    (lo hi : Int) (hlo : w.cell? ⟨4, 2 * (X / 16), none⟩ = some (.int .u8 lo)) (hhi : w.cell? ⟨4, 2 * (X / 16) + 1, none⟩ = some (.int .u8 hi)) (hX : nine X) (hB : B < w.heap.size) (c1 : Int) (h1 : w.cell? ⟨B, off + 1, none⟩ = some (.int .u8 c1)) (hlt : n < X % 8) (c2 : Int) (h2 : w.cell? ⟨B, off + 2, none⟩ = some (.int .u8 c2)) (h2n : (1 : Int) < (n : Int)) (h3n : (2 : Int) < (n : Int)) (hl : lo ≤ c1) (hh : c1 ≤ hi) (hc2 : 128 ≤ c2) (hc3 : 191 < c2) :
    Calls Tryd.prog 38 #[.slice (some ⟨B, off, none⟩) n cap] w fun e w' => e = .returned (.bool true) ∧ Below w.heap.size w w' := by
  have hnz : ((n : Int) == 0) = false := by simp; omega
  have hp : (0 : Int) < (n : Int) := by omega
  have h1a : ∀ o : Obj, (w.alloc o).cell? ⟨B, off + 1, none⟩ = some (.int .u8 c1) := fun o => (Below.cell ((Below.refl _ w).alloc (Nat.le_refl _) o) (p := ⟨B, off + 1, none⟩) hB).trans h1
  have h2a : ∀ o : Obj, (w.alloc o).cell? ⟨B, off + 2, none⟩ = some (.int .u8 c2) := fun o => (Below.cell ((Below.refl _ w).alloc (Nat.le_refl _) o) (p := ⟨B, off + 2, none⟩) hB).trans h2
  have hld : decide (c1 < lo) = false := decide_eq_false (by omega)
  have hhd : decide (hi < c1) = false := decide_eq_false (by omega)
  rcases hX with rfl | rfl | rfl | rfl | rfl | rfl | rfl | rfl | rfl
  all_goals
    first
    | (exfalso; omega)
    | (simp only [Nat.reduceDiv, Nat.reduceMul, Nat.reduceAdd, Nat.reduceMod] at hlo hhi hlt
       go_enter Tryd.func38, Tryd.ntmps38
       go_wp2_with fail
       go_quiet (fail)
       go_wp2
       go_ret
       exact ⟨rfl, bdN ((Below.refl _ _).alloc (Nat.le_refl _) _) _⟩)

set_option maxHeartbeats 1600000 in
set_option maxRecDepth 100000 in
theorem full_three (B off n cap : Nat) (c0 : Nat) (X : Nat) (w : World) (hn : 1 ≤ n) (hn' : n ≤ 1048576) (h0 : w.cell? ⟨B, off, none⟩ = some (.int .u8 c0)) (hc : c0 < 256) (hf : w.cell? ⟨3, c0, none⟩ = some (.int .u8 X))
    (lo hi : Int) (hlo : w.cell? ⟨4, 2 * (X / 16), none⟩ = some (.int .u8 lo)) (hhi : w.cell? ⟨4, 2 * (X / 16) + 1, none⟩ = some (.int .u8 hi)) (hX : nine X) (hB : B < w.heap.size) (c1 : Int) (h1 : w.cell? ⟨B, off + 1, none⟩ = some (.int .u8 c1)) (hlt : n < X % 8) (c2 : Int) (h2 : w.cell? ⟨B, off + 2, none⟩ = some (.int .u8 c2)) (h2n : (1 : Int) < (n : Int)) (h3n : (2 : Int) < (n : Int)) (hl : lo ≤ c1) (hh : c1 ≤ hi) (hc2 : 128 ≤ c2) (hc3 : c2 ≤ 191) :
    Calls Tryd.prog 38 #[.slice (some ⟨B, off, none⟩) n cap] w fun e w' => e = .returned (.bool false) ∧ Below w.heap.size w w' := by
  have hnz : ((n : Int) == 0) = false := by simp; omega
  have hp : (0 : Int) < (n : Int) := by omega
  have h1a : ∀ o : Obj, (w.alloc o).cell? ⟨B, off + 1, none⟩ = some (.int .u8 c1) := fun o => (Below.cell ((Below.refl _ w).alloc (Nat.le_refl _) o) (p := ⟨B, off + 1, none⟩) hB).trans h1
  have h2a : ∀ o : Obj, (w.alloc o).cell? ⟨B, off + 2, none⟩ = some (.int .u8 c2) := fun o => (Below.cell ((Below.refl _ w).alloc (Nat.le_refl _) o) (p := ⟨B, off + 2, none⟩) hB).trans h2
  have hld : decide (c1 < lo) = false := decide_eq_false (by omega)
  have hhd : decide (hi < c1) = false := decide_eq_false (by omega)
  rcases hX with rfl | rfl | rfl | rfl | rfl | rfl | rfl | rfl | rfl
  all_goals
    first
    | (exfalso; omega)
    | (simp only [Nat.reduceDiv, Nat.reduceMul, Nat.reduceAdd, Nat.reduceMod] at hlo hhi hlt
       go_enter Tryd.func38, Tryd.ntmps38
       go_wp2_with fail
       go_quiet (fail)
       go_wp2
       go_ret
       exact ⟨rfl, bdN ((Below.refl _ _).alloc (Nat.le_refl _) _) _⟩)
end Go.Proofs.Qxb6608766aDoor
