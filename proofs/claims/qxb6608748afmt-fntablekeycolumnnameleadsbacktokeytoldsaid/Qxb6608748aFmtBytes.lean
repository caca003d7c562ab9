/-
  PLAIN: the two byte functions of the law's text.
-/
import GoSem.Core.Utf8
namespace Go.Proofs.Qxb6608748aFmt.Pl
def foldB (b : UInt8) : UInt8 := if 65 ≤ b.toNat ∧ b.toNat ≤ 90 then b + 32 else b
def flipB (b : UInt8) : UInt8 := if 65 ≤ b.toNat ∧ b.toNat ≤ 90 then b + 32 else if 97 ≤ b.toNat ∧ b.toNat ≤ 122 then b - 32 else b
def foldR (r : Int) : Int := if 65 ≤ r ∧ r ≤ 90 then r - 65 + 97 else r

theorem fold_num (b : UInt8) : ((foldB b).toNat : Int) = if 65 ≤ (b.toNat : Int) ∧ (b.toNat : Int) ≤ 90 then (b.toNat : Int) + 32 else b.toNat := by
  have hb := b.toNat_lt
  have e32 : (32 : UInt8).toNat = 32 := rfl
  have ea := UInt8.toNat_add b 32
  rw [e32] at ea
  unfold foldB
  repeat' split
  all_goals omega
theorem flip_num (b : UInt8) : ((flipB b).toNat : Int) = if 65 ≤ (b.toNat : Int) ∧ (b.toNat : Int) ≤ 90 then (b.toNat : Int) + 32 else if 97 ≤ (b.toNat : Int) ∧ (b.toNat : Int) ≤ 122 then (b.toNat : Int) - 32 else b.toNat := by
  have hb := b.toNat_lt
  have e32 : (32 : UInt8).toNat = 32 := rfl
  have ea := UInt8.toNat_add b 32
  have es := UInt8.toNat_sub b 32
  rw [e32] at ea es
  unfold flipB
  repeat' split
  all_goals omega
end Go.Proofs.Qxb6608748aFmt.Pl
