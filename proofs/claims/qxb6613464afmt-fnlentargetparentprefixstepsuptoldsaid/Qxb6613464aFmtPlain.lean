/-
  PLAIN: no run of the model in this text: what a path of names tells.
-/
import Derived.Test.Qxb6613464aFmtWalkF
namespace Go.Proofs.Qxb6613464aFmt

/-- "syscall" -/
def sysc : ByteArray := ⟨#[115, 121, 115, 99, 97, 108, 108]⟩
/-- How many of the first names are "parent". -/
def lead : List ByteArray → Nat
  | [] => 0
  | x :: t => if x = par then lead t + 1 else 0
theorem lead_le : ∀ ns, lead ns ≤ ns.length
  | [] => Nat.le_refl _
  | x :: t => by
    unfold lead
    have := lead_le t
    rw [List.length_cons]
    split <;> omega
theorem lead_before : ∀ (ns : List ByteArray) (k : Nat) (h : k < ns.length), k < lead ns → ns[k] = par
  | [], _, h, _ => by simp at h
  | x :: t, k, h, hk => by
    unfold lead at hk
    split at hk
    · next e =>
      cases k with
      | zero => exact e
      | succ k =>
        rw [List.getElem_cons_succ]
        exact lead_before t k (by simpa using h) (by omega)
    · omega
theorem lead_at : ∀ (ns : List ByteArray) (h : lead ns < ns.length), ns[lead ns] ≠ par
  | [], h => by simp at h
  | x :: t, h => by
    by_cases e : x = par
    · have el : lead (x :: t) = lead t + 1 := by rw [lead, if_pos e]
      have h' : lead t < t.length := by rw [el, List.length_cons] at h; omega
      have := lead_at t h'
      simp only [el, List.getElem_cons_succ]
      exact this
    · have el : lead (x :: t) = 0 := by rw [lead, if_neg e]
      simp only [el, List.getElem_cons_zero]
      exact e
/-- No "parent" among the names. -/
def clean (ns : List ByteArray) : Prop := ∀ x ∈ ns, x ≠ par
/-- What lenTarget makes of a path: behind "syscall"; steps up; the names left. -/
def tgt (ts : List ByteArray) : Bool × Nat × List ByteArray :=
  if 1 < ts.length ∧ ts.head? = some sysc then (true, 0, ts.drop 1) else if ts.head? = some par then (false, lead ts, ts.drop (lead ts)) else (false, 1, ts)
theorem sysc_ne : sysc ≠ par := by decide
end Go.Proofs.Qxb6613464aFmt
