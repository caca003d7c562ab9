/-
  WALKS: ZZnewInput, at, fill, peek.
-/
import Derived.Test.Qxb6608766aDoorWalkA
namespace Go.Proofs.Qxb6608766aDoor
open Go.RowKit

/-- An input lies at the head of block ib: its buffer, its reading position; its reading has ended. -/
def InAt (w : World) (ib : Nat) (a : Option Addr) (n cap off : Nat) : Prop :=
  w.cell? ⟨ib, 1, none⟩ = some (.slice a n cap) ∧ w.cell? ⟨ib, 2, none⟩ = some (.int .i64 off) ∧ ∃ u v, w.cell? ⟨ib, 3, none⟩ = some (.iface u v)

set_option maxHeartbeats 400000 in
theorem newInput (a : Option Addr) (n cap off : Nat) (u : TypeId) (v : Value) (w : World) (h0 : w.cell? ⟨0, 0, none⟩ = some (.iface u v)) :
    Calls Tryd.prog 9 #[.slice a n cap, .int .i64 off] w fun e w' => e = .returned (.pointer (some ⟨w.heap.size, 0, none⟩)) ∧ InAt w' w.heap.size a n cap off ∧ Below w.heap.size w w' := by
  go_enter Tryd.func9, Tryd.ntmps9
  go_wp2
  go_ret
  refine ⟨rfl, ⟨?_, ?_, u, v, ?_⟩, (Below.refl _ _).alloc (Nat.le_refl _) _⟩
  all_goals
    rw [World.cell?_alloc_mark]
    simp

set_option maxHeartbeats 400000 in
theorem fill_any (ib : Nat) (a : Option Addr) (n cap off k : Nat) (w : World) (h : InAt w ib a n cap off) (hn : n ≤ 1048576) (hk : k ≤ 1000) (hoff : off ≤ n) (hge : (n : Int) ≤ (off : Int) + (k : Int)) :
    Calls Tryd.prog 30 #[.pointer (some ⟨ib, 0, none⟩), .int .i64 k] w fun e w' => e = .returned (.tuple #[.int .u8 0, .bool false]) ∧ ∃ q, w' = w.drewN q := by
  obtain ⟨h1, h2, u, v, h3⟩ := h
  go_enter Tryd.func30, Tryd.ntmps30
  go_wp2
  refine wp_loop_rounds 1 ?_
  rw [rounds_succ]
  go_wp2_with fail
  go_quiet (fail)
  go_wp2
  go_ret2
  exact ⟨rfl, _, rfl⟩

theorem ret_slice {a : Option Addr} {n n' c : Nat} (h : n = n') : Ending.returned (.slice a n c) = .returned (.slice a n' c) := by rw [h]
/-- The call gives two values back. -/
def SaysTwo (e : Ending) : Prop := ∃ x y, e = .returned (.tuple #[x, y])
theorem says2 (x y : Value) : SaysTwo (.returned (.tuple #[x, y])) := ⟨x, y, rfl⟩

set_option maxHeartbeats 400000 in
theorem at_in (ib : Nat) (B n cap off k : Nat) (x : Int) (w : World) (h : InAt w ib (some ⟨B, 0, none⟩) n cap off) (hn : n ≤ 1048576) (hk : k ≤ 1000) (hlt : off + k < n) (hc : w.cell? ⟨B, off + k, none⟩ = some (.int .u8 x)) :
    Calls Tryd.prog 27 #[.pointer (some ⟨ib, 0, none⟩), .int .i64 k] w fun e w' => SaysTwo e ∧ ∃ q, w' = w.drewN q := by
  obtain ⟨h1, h2, u, v, h3⟩ := h
  go_enter Tryd.func27, Tryd.ntmps27
  go_wp2
  go_ret2
  exact ⟨says2 _ _, 0, rfl⟩

set_option maxHeartbeats 400000 in
theorem at_out (ib : Nat) (a : Option Addr) (n cap off k : Nat) (w : World) (h : InAt w ib a n cap off) (hn : n ≤ 1048576) (hk : k ≤ 1000) (hoff : off ≤ n) (hge : n ≤ off + k) :
    Calls Tryd.prog 27 #[.pointer (some ⟨ib, 0, none⟩), .int .i64 k] w fun e w' => SaysTwo e ∧ ∃ q, w' = w.drewN q := by
  have HF : Hid (Calls Tryd.prog 30 #[.pointer (some ⟨ib, 0, none⟩), .int .i64 k] w fun e w' => e = .returned (.tuple #[.int .u8 0, .bool false]) ∧ ∃ q, w' = w.drewN q) := fill_any ib a n cap off k w h hn hk hoff (by omega)
  obtain ⟨h1, h2, u, v, h3⟩ := h
  go_enter Tryd.func27, Tryd.ntmps27
  go_wp2_with fail
  refine HF.out.mono ?_
  rintro e w' ⟨rfl, q, rfl⟩
  go_wp2
  go_ret2
  exact ⟨says2 _ _, q, rfl⟩

set_option maxHeartbeats 400000 in
theorem peek_in (ib : Nat) (B n cap off m : Nat) (w : World) (h : InAt w ib (some ⟨B, 0, none⟩) n cap off) (hn : n ≤ 1048576) (hm : 1 ≤ m) (hm' : m ≤ 33) (hlt : off < n) (hcap : n ≤ cap)
    (H : ∀ W : World, (∃ q, W = w.drewN q) → Calls Tryd.prog 27 #[.pointer (some ⟨ib, 0, none⟩), .int .i64 (m - 1 : Nat)] W fun e w' => SaysTwo e ∧ ∃ q, w' = w.drewN q) :
    Calls Tryd.prog 22 #[.pointer (some ⟨ib, 0, none⟩), .int .i64 0, .int .i64 m] w fun e w' => e = .returned (.slice (some ⟨B, off, none⟩) (min m (n - off)) (cap - off)) ∧ ∃ q, w' = w.drewN q := by
  obtain ⟨h1, h2, u, v, h3⟩ := h
  have HA : Hid (Calls Tryd.prog 27 #[.pointer (some ⟨ib, 0, none⟩), .int .i64 (m - 1 : Nat)] w fun e w' => SaysTwo e ∧ ∃ q, w' = w.drewN q) := H w ⟨0, rfl⟩
  clear H
  rw [show (((m - 1 : Nat) : Int)) = (m : Int) - 1 by omega] at HA
  go_enter Tryd.func22, Tryd.ntmps22
  go_wp2_with fail
  refine HA.out.mono ?_
  rintro e w' ⟨⟨x, y, rfl⟩, q, rfl⟩
  go_wp2_with fail
  go_quiet (fail)
  go_wp2
  all_goals
    go_ret
    exact ⟨ret_slice (by omega), _, rfl⟩

/-- The call gives an empty slice back. -/
def SaysEmpty (e : Ending) : Prop := ∃ p c, c ≤ maxLen ∧ e = .returned (.slice p 0 c)

set_option maxHeartbeats 400000 in
theorem peek_out (ib : Nat) (a : Option Addr) (n cap m : Nat) (w : World) (h : InAt w ib a n cap n) (hn : n ≤ 1048576) (hm : 1 ≤ m) (hm' : m ≤ 33) (hcap : n ≤ cap) (hcap' : cap ≤ 9223372036854775807) (ha : a = none → cap = 0)
    (H : ∀ W : World, (∃ q, W = w.drewN q) → Calls Tryd.prog 27 #[.pointer (some ⟨ib, 0, none⟩), .int .i64 (m - 1 : Nat)] W fun e w' => SaysTwo e ∧ ∃ q, w' = w.drewN q) :
    Calls Tryd.prog 22 #[.pointer (some ⟨ib, 0, none⟩), .int .i64 0, .int .i64 m] w fun e w' => SaysEmpty e ∧ ∃ q, w' = w.drewN q := by
  obtain ⟨h1, h2, u, v, h3⟩ := h
  have HA : Hid (Calls Tryd.prog 27 #[.pointer (some ⟨ib, 0, none⟩), .int .i64 (m - 1 : Nat)] w fun e w' => SaysTwo e ∧ ∃ q, w' = w.drewN q) := H w ⟨0, rfl⟩
  clear H
  rw [show (((m - 1 : Nat) : Int)) = (m : Int) - 1 by omega] at HA
  rcases a with _ | ad
  · have hc0 := ha rfl
    clear ha
    have hn0 : n = 0 := by omega
    subst hc0 hn0
    go_enter Tryd.func22, Tryd.ntmps22
    go_wp2_with fail
    refine HA.out.mono ?_
    rintro e w' ⟨⟨x, y, rfl⟩, q, rfl⟩
    go_wp2_with fail
    go_quiet (fail)
    go_wp2
    all_goals
      go_ret
      exact ⟨⟨_, _, by decide, rfl⟩, q + nq, by simp⟩
  · clear ha
    go_enter Tryd.func22, Tryd.ntmps22
    go_wp2_with fail
    refine HA.out.mono ?_
    rintro e w' ⟨⟨x, y, rfl⟩, q, rfl⟩
    go_wp2_with fail
    go_quiet (fail)
    go_wp2
    all_goals
      go_ret
      exact ⟨⟨_, _, by unfold maxLen; omega, rfl⟩, q + nq, by simp⟩
end Go.Proofs.Qxb6608766aDoor
