/-
  WALKS: zzBytes, stringsOver, samePath, zeroTarget.
-/
import Derived.Test.Qxb6613464aFmtWalkA
import Derived.Deep.LoopGhost
namespace Go.Proofs.Qxb6613464aFmt
open Go.RowKit

def Names (w : World) (a : Option Addr) (ns : List ByteArray) : Prop := 0 < ns.length → ∃ b off, a = some ⟨b, off, none⟩ ∧ b < w.heap.size ∧ StrsAt w b off ns
/-- The call answers some bool; where it is true, P. -/
def SaysIf (P : Prop) (e : Ending) : Prop := ∃ q : Bool, e = .returned (.bool q) ∧ (q = true → P)
theorem says_no (P : Prop) : SaysIf P (.returned (.bool false)) := ⟨false, rfl, fun h => by cases h⟩
theorem says_yes {P : Prop} (h : P) : SaysIf P (.returned (.bool true)) := ⟨true, rfl, fun _ => h⟩

set_option maxHeartbeats 800000 in
theorem zzBytes_any (s : ByteArray) (a : Option Addr) (c : Nat) (ns : List ByteArray) (w : World) (hs : s.size ≤ maxLen) (hl : ns.length ≤ maxLen) (hN : Names w a ns) :
    Calls Tryf.prog 4 #[.string s, .slice a ns.length c] w fun e w' => SaysIf (s.size ≤ 1048576 ∧ ns.length ≤ 1048576) e ∧ w' = w := by
  have HN : Hid (Names w a ns) := hN
  clear hN
  unfold maxLen at hs hl
  rcases Int.lt_or_le 1048576 (s.size : Int) with h1 | h1
  · go_enter Tryf.func4, Tryf.ntmps4
    go_wp2
    go_ret
    exact ⟨says_no _, rfl⟩
  · rcases Int.lt_or_le 1048576 (ns.length : Int) with h2 | h2
    · go_enter Tryf.func4, Tryf.ntmps4
      go_wp2
      go_ret
      exact ⟨says_no _, rfl⟩
    · rcases Int.lt_or_le 1048576 ((s.size : Int) + (ns.length : Int)) with h3 | h3
      · go_enter Tryf.func4, Tryf.ntmps4
        go_wp2
        go_ret
        exact ⟨says_no _, rfl⟩
      · go_enter Tryf.func4, Tryf.ntmps4
        go_wp2
        go_loopg [5, 6] ns.length (fun g tot i wx => wx = w ∧ ∃ (k : Nat) (T : Int), k ≤ ns.length ∧ g = ns.length - k ∧ i = .int .i64 k ∧ tot = .int .i64 T ∧ 0 ≤ T ∧ T ≤ 1048576)
        case atStart => exact ⟨rfl, 0, _, by omega, by omega, rfl, rfl, by omega, by omega⟩
        case round =>
          obtain ⟨rfl, k, T, hk, hg, rfl, rfl, hT0, hT1⟩ := hrel
          have HG : Hid (gk = ns.length - k) := hg
          clear hg
          rcases Nat.lt_or_ge k ns.length with hlt | hge
          · obtain ⟨b, off, rfl, hb, hst⟩ := HN.out (by omega)
            have hck := hst k hlt
            have HST : Hid (StrsAt wr b off ns) := hst
            clear hst
            generalize ns[k] = x at hck
            rcases Int.lt_or_le 1048576 (x.size : Int) with h4 | h4
            · go_wp2
              go_ret
              exact ⟨says_no _, rfl⟩
            · rcases Int.lt_or_le 1048576 (T + (x.size : Int)) with h5 | h5
              · go_wp2
                go_ret
                exact ⟨says_no _, rfl⟩
              · go_wp2
                go_roundg (ns.length - (k + 1))
                case rel => exact ⟨rfl, k + 1, _, by omega, rfl, by go_num, rfl, by omega, by omega⟩
                case measure => have := HG.out; omega
          · go_wp2
            go_ret
            exact ⟨says_yes ⟨by omega, by omega⟩, rfl⟩

set_option maxHeartbeats 800000 in
theorem over_any (a : Option Addr) (c : Nat) (ns : List ByteArray) (mx : Int) (w : World) (hm0 : 0 ≤ mx) (hm1 : mx ≤ 1048576) (hl : ns.length ≤ 1048576) (hN : Names w a ns) :
    Calls Tryf.prog 5 #[.slice a ns.length c, .int .i64 mx] w fun e w' => SaysIf True e ∧ w' = w := by
  have HN : Hid (Names w a ns) := hN
  clear hN
  go_enter Tryf.func5, Tryf.ntmps5
  go_wp2
  go_loopg [5, 6] ns.length (fun g tot i wx => wx = w ∧ ∃ (k : Nat) (T : Int), k ≤ ns.length ∧ g = ns.length - k ∧ i = .int .i64 k ∧ tot = .int .i64 T ∧ 0 ≤ T ∧ T ≤ 1048576)
  case atStart => exact ⟨rfl, 0, 0, by omega, by omega, rfl, rfl, by omega, by omega⟩
  case round =>
    obtain ⟨rfl, k, T, hk, hg, rfl, rfl, hT0, hT1⟩ := hrel
    have HG : Hid (gk = ns.length - k) := hg
    clear hg
    rcases Nat.lt_or_ge k ns.length with hlt | hge
    · obtain ⟨b, off, rfl, hb, hst⟩ := HN.out (by omega)
      have hck := hst k hlt
      have HST : Hid (StrsAt wr b off ns) := hst
      clear hst
      generalize ns[k] = x at hck
      rcases Int.lt_or_le mx (x.size : Int) with h4 | h4
      · go_wp2
        go_ret
        exact ⟨says_yes trivial, rfl⟩
      · rcases Int.lt_or_le mx (T + (16 + (x.size : Int))) with h5 | h5
        · go_wp2
          go_ret
          exact ⟨says_yes trivial, rfl⟩
        · go_wp2
          go_roundg (ns.length - (k + 1))
          case rel => exact ⟨rfl, k + 1, _, by omega, rfl, by go_num, rfl, by omega, by omega⟩
          case measure => have := HG.out; omega
    · go_wp2
      go_ret
      exact ⟨says_no _, rfl⟩
end Go.Proofs.Qxb6613464aFmt
