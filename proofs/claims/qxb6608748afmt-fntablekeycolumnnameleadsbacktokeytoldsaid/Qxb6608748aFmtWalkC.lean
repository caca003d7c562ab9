/-
  WALKS: zzBytes, zzValidUTF8.
-/
import Derived.Test.Qxb6608748aFmtWalkB
import Derived.Test.Qxb6608748aFmtPlain
namespace Go.Proofs.Qxb6608748aFmt
open Go.RowKit

/-- The call answers some bool. -/
def SaysBool (e : Ending) : Prop := ∃ b : Bool, e = .returned (.bool b)
theorem says (b : Bool) : SaysBool (.returned (.bool b)) := ⟨b, rfl⟩

set_option maxHeartbeats 800000 in
set_option maxRecDepth 100000 in
theorem bytes_none (a : Option Addr) (cap : Nat) (n : Int) (w : World) :
    Calls Tryf.prog 4 #[.slice a 0 cap, .int .i64 n] w fun e w' => SaysBool e ∧ w' = w := by
  go_enter Tryf.func4, Tryf.ntmps4
  go_wp2
  go_loop [5, 6] (fun z i => z = .int .i64 0 ∧ i = .int .i64 0) (fun _ _ => 0)
  case atStart => exact ⟨rfl, rfl⟩
  case round =>
    obtain ⟨rfl, rfl⟩ := hrel
    go_wp2
    go_ret
    exact ⟨says _, rfl⟩

set_option maxHeartbeats 800000 in
set_option maxRecDepth 100000 in
theorem bytes_any (b off len cap : Nat) (ss : List ByteArray) (n : Int) (w : World) (hl : len ≤ maxLen)
    (hc : ∀ j, j < len → w.cell? ⟨b, off + j, none⟩ = some (.string (ss.getD j ByteArray.empty))) (hz : ∀ j, (ss.getD j ByteArray.empty).size ≤ maxLen) :
    Calls Tryf.prog 4 #[.slice (some ⟨b, off, none⟩) len cap, .int .i64 n] w fun e w' => SaysBool e ∧ w' = w := by
  unfold maxLen at hl hz
  by_cases hbig : (1048576 : Int) < (len : Int)
  · go_enter Tryf.func4, Tryf.ntmps4
    go_wp2
    go_ret
    exact ⟨says _, rfl⟩
  · go_enter Tryf.func4, Tryf.ntmps4
    go_wp2
    go_loop [5, 6] (fun z i => ∃ k : Nat, ∃ q : Int, k ≤ len ∧ 0 ≤ q ∧ q ≤ 1048576 ∧ z = .int .i64 q ∧ i = .int .i64 k) (fun _ i => len - (intOf i).toNat)
    case atStart => exact ⟨0, len, by omega, by omega, by omega, by go_num, rfl⟩
    case round =>
      obtain ⟨k, q, hk, hq0, hq1, rfl, rfl⟩ := hrel
      by_cases hlt : k < len
      · have hck := hc k hlt
        have hzk := hz k
        generalize ss.getD k ByteArray.empty = s at hck hzk
        clear hc hz
        go_wp2
        · go_ret
          exact ⟨says _, rfl⟩
        · go_ret
          exact ⟨says _, rfl⟩
        · go_round
          case rel => exact ⟨k + 1, q + s.size, by omega, by omega, by omega, by go_num, by go_num⟩
          case measure => simp [intOf]; omega
      · go_wp2
        go_ret
        exact ⟨says _, rfl⟩
end Go.Proofs.Qxb6608748aFmt
