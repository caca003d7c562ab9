/-
  WALKS: zzValidUTF8.
-/
import Derived.Test.Qxb6608748aFmtWalkC
import Derived.Deep.DeepCutAuto
import Derived.BigGuardPart
import Derived.Deep.LoopGhost
namespace Go.Proofs.Qxb6608748aFmt
open Go.RowKit

/-- The call answers some bool; true only where the string is made of good pieces. -/
def SaysGood (s : ByteArray) (e : Ending) : Prop := ∃ b : Bool, e = .returned (.bool b) ∧ (b = true → Pl.Good s.data.toList)
theorem says_no (s : ByteArray) : SaysGood s (.returned (.bool false)) := ⟨false, rfl, fun h => by cases h⟩
theorem says_yes {s : ByteArray} (h : Pl.Good s.data.toList) : SaysGood s (.returned (.bool true)) := ⟨true, rfl, fun _ => h⟩

def Inn (s : ByteArray) (k : Nat) (lo hi : Int) (j : Nat) : Prop :=
  ∀ i, 1 ≤ i → i < j → ∃ h : k + i < s.size, (i = 1 → lo ≤ (s[k + i].toNat : Int) ∧ (s[k + i].toNat : Int) ≤ hi) ∧ (i ≠ 1 → (128 : Int) ≤ (s[k + i].toNat : Int) ∧ (s[k + i].toNat : Int) ≤ 191)
theorem inn_start (s : ByteArray) (k : Nat) (lo hi : Int) : Inn s k lo hi 1 := fun i h1 h2 => by omega
theorem inn_one {s : ByteArray} {k : Nat} {lo hi : Int} {j : Nat} (h : Inn s k lo hi j) (hj : k + j < s.size) (e : (j : Int) ≤ 1) (hp : 1 ≤ j) (h1 : lo ≤ (s[k + j].toNat : Int)) (h2 : (s[k + j].toNat : Int) ≤ hi) : Inn s k lo hi (j + 1) := fun i a b => by
  have : i = j := by omega
  subst this
  exact ⟨hj, fun _ => ⟨h1, h2⟩, fun h => by omega⟩
theorem inn_more {s : ByteArray} {k : Nat} {lo hi : Int} {j : Nat} (h : Inn s k lo hi j) (hj : k + j < s.size) (e : ¬ (j : Int) ≤ 1) (h1 : (128 : Int) ≤ (s[k + j].toNat : Int)) (h2 : (s[k + j].toNat : Int) ≤ 191) : Inn s k lo hi (j + 1) := fun i a b => by
  by_cases hij : i = j
  · subst hij
    exact ⟨hj, fun h => by omega, fun _ => ⟨h1, h2⟩⟩
  · exact h i a (by omega)

theorem good_step {s : ByteArray} {k : Nat} (n : Nat) (h : Pl.Good (s.data.toList.take k)) (hp : Pl.Piece ((s.data.toList.drop k).take n)) : Pl.Good (s.data.toList.take (k + n)) := by
  rw [List.take_add]; exact Pl.good_snoc h hp
theorem drop_at (s : ByteArray) (k : Nat) (h : k < s.size) : s.data.toList.drop k = s[k] :: s.data.toList.drop (k + 1) := by
  rw [List.drop_eq_getElem_cons (by simpa using h)]; rfl
theorem good1 {s : ByteArray} {k : Nat} (h : Pl.Good (s.data.toList.take k)) (hk : k < s.size) (hc : (s[k].toNat : Int) < 128) : Pl.Good (s.data.toList.take (k + 1)) := by
  refine good_step 1 h ?_
  rw [drop_at s k hk]
  exact Pl.piece1 _ (by omega)
theorem good2 {s : ByteArray} {k : Nat} {lo hi : Int} (h : Pl.Good (s.data.toList.take k)) (hk : k < s.size) (hc : (194 : Int) ≤ (s[k].toNat : Int) ∧ (s[k].toNat : Int) ≤ 223) (hlo : lo = 128) (hhi : hi = 191) (hi2 : Inn s k lo hi 2) : Pl.Good (s.data.toList.take (k + 2)) := by
  subst hlo hhi
  obtain ⟨h1, a1, _⟩ := hi2 1 (by omega) (by omega)
  have a1 := a1 rfl
  refine good_step 2 h ?_
  rw [drop_at s k hk, drop_at s (k + 1) h1]
  exact Pl.piece2 _ _ (by omega) (by omega)
theorem good3 {s : ByteArray} {k : Nat} {lo hi : Int} (h : Pl.Good (s.data.toList.take k)) (hk : k < s.size) (hc : (224 : Int) ≤ (s[k].toNat : Int) ∧ (s[k].toNat : Int) ≤ 239) (hlo : 128 ≤ lo) (hlo' : (s[k].toNat : Int) = 224 → 160 ≤ lo) (hhi : hi ≤ 191) (hhi' : (s[k].toNat : Int) = 237 → hi ≤ 159) (hi2 : Inn s k lo hi 3) : Pl.Good (s.data.toList.take (k + 3)) := by
  obtain ⟨h1, a1, _⟩ := hi2 1 (by omega) (by omega)
  have a1 := a1 rfl
  obtain ⟨h2, _, a2⟩ := hi2 2 (by omega) (by omega)
  have a2 := a2 (by omega)
  refine good_step 3 h ?_
  rw [drop_at s k hk, drop_at s (k + 1) h1, drop_at s (k + 1 + 1) h2]
  refine Pl.piece3 _ _ _ (by omega) (by omega) (fun e => ?_) (fun e => ?_) (by show 128 ≤ (s[k + 2]).toNat ∧ (s[k + 2]).toNat ≤ 191; omega)
  · have := hlo' (by omega); omega
  · have := hhi' (by omega); omega
theorem good4 {s : ByteArray} {k : Nat} {lo hi : Int} (h : Pl.Good (s.data.toList.take k)) (hk : k < s.size) (hc : (240 : Int) ≤ (s[k].toNat : Int) ∧ (s[k].toNat : Int) ≤ 244) (hlo : 128 ≤ lo) (hlo' : (s[k].toNat : Int) = 240 → 144 ≤ lo) (hhi : hi ≤ 191) (hhi' : (s[k].toNat : Int) = 244 → hi ≤ 143) (hi2 : Inn s k lo hi 4) : Pl.Good (s.data.toList.take (k + 4)) := by
  obtain ⟨h1, a1, _⟩ := hi2 1 (by omega) (by omega)
  have a1 := a1 rfl
  obtain ⟨h2, _, a2⟩ := hi2 2 (by omega) (by omega)
  have a2 := a2 (by omega)
  obtain ⟨h3, _, a3⟩ := hi2 3 (by omega) (by omega)
  have a3 := a3 (by omega)
  refine good_step 4 h ?_
  rw [drop_at s k hk, drop_at s (k + 1) h1, drop_at s (k + 1 + 1) h2, drop_at s (k + 1 + 1 + 1) h3]
  refine Pl.piece4 _ _ _ _ (by omega) (by omega) (fun e => ?_) (fun e => ?_) (by show 128 ≤ (s[k + 2]).toNat ∧ (s[k + 2]).toNat ≤ 191; omega) (by show 128 ≤ (s[k + 3]).toNat ∧ (s[k + 3]).toNat ≤ 191; omega)
  · have := hlo' (by omega); omega
  · have := hhi' (by omega); omega

/-- How many bytes follow a lead byte c, and between what the first of them lies. -/
def Cls (c : Int) (N : Nat) (LO HI : Int) : Prop :=
  (194 ≤ c ∧ c ≤ 223 ∧ N = 1 ∧ LO = 128 ∧ HI = 191) ∨ (224 ≤ c ∧ c ≤ 239 ∧ N = 2 ∧ 128 ≤ LO ∧ LO ≤ 191 ∧ HI ≤ 191 ∧ (c = 224 → 160 ≤ LO) ∧ (c = 237 → HI ≤ 159)) ∨
  (240 ≤ c ∧ c ≤ 244 ∧ N = 3 ∧ 128 ≤ LO ∧ LO ≤ 191 ∧ HI ≤ 191 ∧ (c = 240 → 144 ≤ LO) ∧ (c = 244 → HI ≤ 143))
theorem cls_bd {c : Int} {N : Nat} {LO HI : Int} (h : Cls c N LO HI) : 1 ≤ N ∧ N ≤ 3 ∧ LO ≤ 191 ∧ HI ≤ 191 := by unfold Cls at h; omega
theorem good_cls {s : ByteArray} {k N : Nat} {LO HI : Int} (hk : k < s.size) (h : Cls (s[k].toNat : Int) N LO HI) (hg : Pl.Good (s.data.toList.take k)) (hi2 : Inn s k LO HI (N + 1)) : Pl.Good (s.data.toList.take (k + (N + 1))) := by
  rcases h with ⟨h1, h2, rfl, rfl, rfl⟩ | ⟨h1, h2, rfl, h3, h4, h5, h6, h7⟩ | ⟨h1, h2, rfl, h3, h4, h5, h6, h7⟩
  · exact good2 hg hk ⟨h1, h2⟩ rfl rfl hi2
  · exact good3 hg hk ⟨h1, h2⟩ h3 h6 h5 h7 hi2
  · exact good4 hg hk ⟨h1, h2⟩ h3 h6 h5 h7 hi2

theorem classes (c : Int) (h : c < 256) (h0 : 194 ≤ c) : 244 < c ∨ (194 ≤ c ∧ c ≤ 223) ∨ (224 ≤ c ∧ c ≤ 224) ∨ (237 ≤ c ∧ c ≤ 237) ∨ (225 ≤ c ∧ c ≤ 236) ∨ (238 ≤ c ∧ c ≤ 239) ∨ (240 ≤ c ∧ c ≤ 240) ∨ (241 ≤ c ∧ c ≤ 243) ∨ (244 ≤ c ∧ c ≤ 244) := by omega

set_option maxHeartbeats 1600000 in
set_option maxRecDepth 100000 in
theorem valid_any (s : ByteArray) (w : World) (hs : s.size ≤ maxLen) :
    Calls Tryf.prog 5 #[.string s] w fun e w' => SaysGood s e ∧ w' = w := by
  unfold maxLen at hs
  go_enter Tryf.func5, Tryf.ntmps5
  go_wp2
  go_loopg [3] s.size (fun g i wx => wx = w ∧ ∃ k : Nat, k ≤ s.size ∧ g = s.size - k ∧ i = .int .i64 k ∧ Pl.Good (s.data.toList.take k))
  case atStart => exact ⟨rfl, 0, Nat.zero_le _, rfl, rfl, by rw [List.take_zero]; exact Pl.good_nil⟩
  case round =>
    obtain ⟨rfl, k, hk, hgk, rfl, hg⟩ := hrel
    have HGK : Hid (gk = s.size - k) := hgk
    clear hgk
    by_cases hlt : k < s.size
    · have hbd : (s[k].toNat : Int) < 256 := by have := s[k].toNat_lt; omega
      by_cases h80 : (s[k].toNat : Int) < 128
      · go_wp2
        go_roundg (s.size - (k + 1))
        case measure => have := HGK.out; omega
        case rel => exact ⟨rfl, k + 1, by omega, rfl, by go_num, good1 hg hlt h80⟩
      · have h80' : 128 ≤ (s[k].toNat : Int) := by omega
        clear h80
        rcases Int.lt_or_le (s[k].toNat : Int) 194 with h194 | h194
        · go_wp2
          go_ret
          exact ⟨says_no s, rfl⟩
        · go_upto_if 26 with fail
          go_cut [5, 6, 7] (fun n lo hi wx => wx = wr ∧ ∃ (N : Nat) (LO HI : Int), n = .int .i64 N ∧ lo = .int .u8 LO ∧ hi = .int .u8 HI ∧ Cls ((s[k]'hlt).toNat : Int) N LO HI)
          case first =>
            rcases classes _ hbd (by omega) with h | h | h | h | h | h | h | h | h
            · go_wp2
              go_ret
              exact ⟨says_no s, rfl⟩
            all_goals
              obtain ⟨h1, h2⟩ := h
              go_wp2
              go_meet
            · case rel => exact ⟨rfl, 1, 128, 191, rfl, rfl, rfl, by unfold Cls; omega⟩
            · case rel => exact ⟨rfl, 2, 160, 191, rfl, rfl, rfl, by unfold Cls; omega⟩
            · case rel => exact ⟨rfl, 2, 128, 159, rfl, rfl, rfl, by unfold Cls; omega⟩
            · case rel => exact ⟨rfl, 2, 128, 191, rfl, rfl, rfl, by unfold Cls; omega⟩
            · case rel => exact ⟨rfl, 2, 128, 191, rfl, rfl, rfl, by unfold Cls; omega⟩
            · case rel => exact ⟨rfl, 3, 144, 191, rfl, rfl, rfl, by unfold Cls; omega⟩
            · case rel => exact ⟨rfl, 3, 128, 191, rfl, rfl, rfl, by unfold Cls; omega⟩
            · case rel => exact ⟨rfl, 3, 128, 143, rfl, rfl, rfl, by unfold Cls; omega⟩
          case rest =>
            obtain ⟨rfl, N, LO, HI, rfl, rfl, rfl, hcls⟩ := hcut
            obtain ⟨hN1, hN3, hLO, hHI⟩ := cls_bd hcls
            rcases Int.lt_or_le (N : Int) ((s.size : Int) - (k : Int)) with hsh | hsh
            rotate_left
            · go_wp2
              go_ret
              exact ⟨says_no s, rfl⟩
            · go_wp2
              go_loopg [8] N (fun g2 m wx => wx = wc ∧ ∃ j : Nat, 1 ≤ j ∧ j ≤ N + 1 ∧ g2 = N + 1 - j ∧ m = .int .i64 j ∧ Inn s k LO HI j)
              case atStart => exact ⟨rfl, 1, by omega, by omega, by omega, rfl, inn_start _ _ _ _⟩
              case round =>
                obtain ⟨rfl, j, hj1, hj2, hg2, rfl, hin⟩ := hrel
                have HG2 : Hid (_ = N + 1 - j) := hg2
                clear hg2
                rcases Nat.lt_or_ge N j with hjn | hjn
                · have hje : j = N + 1 := by omega
                  subst hje
                  go_wp2
                  go_roundg (s.size - (k + (N + 1)))
                  case measure => have := HGK.out; omega
                  case rel => exact ⟨rfl, k + (N + 1), by omega, rfl, by go_num, good_cls hlt hcls hg hin⟩
                · have hkj : k + j < s.size := by omega
                  have hbj : (s[k + j].toNat : Int) < 256 := by have := s[k + j].toNat_lt; omega
                  rcases Int.lt_or_le 1 (j : Int) with hone | hone
                  · rcases (by omega : (s[k + j].toNat : Int) < 128 ∨ 191 < (s[k + j].toNat : Int) ∨ (128 ≤ (s[k + j].toNat : Int) ∧ (s[k + j].toNat : Int) ≤ 191)) with hd | hd | ⟨hd, hd'⟩
                    · go_wp2
                      go_ret
                      exact ⟨says_no s, rfl⟩
                    · go_wp2
                      go_ret
                      exact ⟨says_no s, rfl⟩
                    · go_wp2
                      go_roundg (N + 1 - (j + 1))
                      case measure => have := HG2.out; omega
                      case rel => exact ⟨rfl, j + 1, by omega, by omega, rfl, by go_num, inn_more hin hkj (by omega) hd hd'⟩
                  · go_wp2
                    all_goals
                      first
                      | (go_ret; exact ⟨says_no s, rfl⟩)
                      | (go_roundg (N + 1 - (j + 1))
                         case measure => have := HG2.out; omega
                         case rel => exact ⟨rfl, j + 1, by omega, by omega, rfl, by go_num, inn_one hin hkj hone hj1 (by omega) (by omega)⟩)
    · have he : k = s.size := by omega
      subst he
      go_wp2
      go_ret
      refine ⟨says_yes ?_, rfl⟩
      rwa [List.take_of_length_le (by simp)] at hg
end Go.Proofs.Qxb6608748aFmt
