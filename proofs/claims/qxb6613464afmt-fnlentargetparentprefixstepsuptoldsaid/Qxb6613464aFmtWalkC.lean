/-
  WALKS: samePath, zeroTarget.
-/
import Derived.Test.Qxb6613464aFmtWalkB
namespace Go.Proofs.Qxb6613464aFmt
open Go.RowKit

theorem eqNil (a : Option Addr) (n c : Nat) (w : World) : (binOp .eql 22 (.slice a n c) (.slice none 0 0)).run Tryf.prog w = .ok (.bool a.isNone) w := by
  rcases a with _ | a <;> kernel_rfl
theorem bdN {B : Nat} {a w : World} (h : Below B a w) (q : Nat) : Below B a (w.drewN q) := ⟨h.os, h.tape, h.output, h.size, h.block⟩

set_option maxHeartbeats 400000 in
theorem same_nil (ya : Option Addr) (yc : Nat) (w : World) :
    Calls Tryf.prog 11 #[.slice none 0 0, .slice ya 0 yc] w fun e w' => e = .returned (.bool true) ∧ ∃ q, w' = w.drewN q := by
  have he := eqNil none 0 0
  go_enter Tryf.func11, Tryf.ntmps11
  go_wp2
  go_loopg [5] 0 (fun g i wx => wx = w ∧ i = .int .i64 0)
  case atStart => exact ⟨rfl, rfl⟩
  case round =>
    obtain ⟨rfl, rfl⟩ := hrel
    go_wp2
    go_ret
    exact ⟨rfl, 0, rfl⟩

set_option maxHeartbeats 800000 in
theorem same_some (b off c b2 off2 c2 : Nat) (ns : List ByteArray) (w : World) (hp : 0 < ns.length) (hl : ns.length ≤ 1048576) (h1 : StrsAt w b off ns) (h2 : StrsAt w b2 off2 ns) :
    Calls Tryf.prog 11 #[.slice (some ⟨b, off, none⟩) ns.length c, .slice (some ⟨b2, off2, none⟩) ns.length c2] w fun e w' => e = .returned (.bool true) ∧ ∃ q, w' = w.drewN q := by
  have he := eqNil (some ⟨b, off, none⟩) ns.length c
  have H1 : Hid (StrsAt w b off ns) := h1
  have H2 : Hid (StrsAt w b2 off2 ns) := h2
  clear h1 h2
  have hz : ((ns.length : Int) == 0) = false := by rw [beq_eq_false_iff_ne]; omega
  have hz2 : ¬ (ns.length = 0) := by omega
  have hz3 : ns ≠ [] := by rintro rfl; simp at hp
  go_enter Tryf.func11, Tryf.ntmps11
  go_wp2
  clear he
  go_loopg [5] ns.length (fun g i wx => ∃ (k q : Nat), k ≤ ns.length ∧ g = ns.length - k ∧ i = .int .i64 k ∧ wx = w.drewN q)
  case atStart => exact ⟨0, 0, by omega, by omega, rfl, rfl⟩
  case round =>
    obtain ⟨k, q, hk, hg, rfl, rfl⟩ := hrel
    have HG : Hid (gk = ns.length - k) := hg
    clear hg
    rcases Nat.lt_or_ge k ns.length with hlt | hge
    · have hc1 := H1.out k hlt
      have hc2 := H2.out k hlt
      generalize ns[k] = x at hc1 hc2
      go_wp2
      go_quiet (fail)
      go_wp2
      go_roundg (ns.length - (k + 1))
      case rel => exact ⟨k + 1, _, by omega, rfl, by go_num, rfl⟩
      case measure => have := HG.out; omega
    · go_wp2
      go_ret
      exact ⟨rfl, q, rfl⟩

theorem zero_yes (w : World) : Calls Tryf.prog 10 #[.agg #[.bool false, .int .i64 0, .slice none 0 0]] w fun e w' => e = .returned (.bool true) ∧ Below w.heap.size w w' := by
  have he := eqNil none 0 0
  go_enter Tryf.func10, Tryf.ntmps10
  go_wp2
  go_ret
  exact ⟨rfl, (Below.refl _ _).alloc (Nat.le_refl _) _⟩
end Go.Proofs.Qxb6613464aFmt
