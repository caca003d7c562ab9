/-
  WALKS: quote$1, peekUntil.
-/
import Derived.Test.Qxb6608766aDoorWalkB
namespace Go.Proofs.Qxb6608766aDoor
open Go.RowKit

set_option maxHeartbeats 400000 in
theorem done_any (B off n cap : Nat) (x : Int) (w : World) (hn : 1 ≤ n) (hn' : n ≤ 1048576) (hx : 0 ≤ x) (hx' : x < 256) (hc : w.cell? ⟨B, off + (n - 1), none⟩ = some (.int .u8 x)) :
    Calls Tryd.prog 33 #[.slice (some ⟨B, off, none⟩) n cap] w fun e w' => e = .returned (.bool (endN x)) ∧ w' = w := by
  have HE : Hid (Calls Tryd.prog 34 #[.int .i32 x] w fun e w' => e = .returned (.bool (endN x)) ∧ w' = w) := ends_any x w hx
  go_enter Tryd.func33, Tryd.ntmps33
  go_wp2_with fail
  refine HE.out.mono ?_
  rintro e w' ⟨rfl, hw⟩
  have hw' := hw.symm
  subst hw'
  go_wp2
  go_ret
  exact ⟨rfl, rfl⟩

/-- The bytes of l lie at the head of block B. -/
def BytesAt (w : World) (B : Nat) (l : List UInt8) : Prop := ∀ j (h : j < l.length), w.cell? ⟨B, j, none⟩ = some (.int .u8 (l[j].toNat : Int))
theorem BytesAt.drewN {w : World} {B : Nat} {l : List UInt8} (h : BytesAt w B l) (q : Nat) : BytesAt (w.drewN q) B l := fun j hj => h j hj
theorem InAt.drewN {w : World} {ib : Nat} {a : Option Addr} {n cap off : Nat} (h : InAt w ib a n cap off) (q : Nat) : InAt (w.drewN q) ib a n cap off := h
/-- How many bytes of t peekUntil hands out. -/
def pk (t : List UInt8) : Nat := if Pl.firstEnd t < 32 then min (Pl.firstEnd t + 1) t.length else min 33 t.length

theorem at_some (ib : Nat) (B cap off k : Nat) (l : List UInt8) (w : World) (h : InAt w ib (some ⟨B, 0, none⟩) l.length cap off) (hn : l.length ≤ 1048576) (hk : k ≤ 1000) (hoff : off ≤ l.length) (hb : BytesAt w B l) :
    Calls Tryd.prog 27 #[.pointer (some ⟨ib, 0, none⟩), .int .i64 k] w fun e w' => SaysTwo e ∧ ∃ q, w' = w.drewN q := by
  by_cases hlt : off + k < l.length
  · exact at_in ib B l.length cap off k _ w h hn hk hlt (hb _ hlt)
  · exact at_out ib _ l.length cap off k w h hn hk hoff (by omega)

theorem peek_some (ib : Nat) (B cap off m : Nat) (l : List UInt8) (w : World) (h : InAt w ib (some ⟨B, 0, none⟩) l.length cap off) (hn : l.length ≤ 1048576) (hm : 1 ≤ m) (hm' : m ≤ 33) (hlt : off < l.length) (hcap : l.length ≤ cap) (hb : BytesAt w B l) (q : Nat) :
    Calls Tryd.prog 22 #[.pointer (some ⟨ib, 0, none⟩), .int .i64 0, .int .i64 m] (w.drewN q) fun e w' => e = .returned (.slice (some ⟨B, off, none⟩) (min m (l.length - off)) (cap - off)) ∧ ∃ q, w' = w.drewN q := by
  refine (peek_in ib B l.length cap off m (w.drewN q) (h.drewN q) hn hm hm' hlt hcap ?_).mono ?_
  · rintro W ⟨q', rfl⟩
    refine (at_some ib B cap off (m - 1) l ((w.drewN q).drewN q') ((h.drewN q).drewN q') hn (by omega) (by omega) ((hb.drewN q).drewN q')).mono ?_
    rintro e w' ⟨he, q2, rfl⟩
    exact ⟨he, q' + q2, by simp [Nat.add_assoc]⟩
  · rintro e w' ⟨he, q2, rfl⟩
    exact ⟨he, q + q2, by simp⟩

theorem first_step {t : List UInt8} {m : Nat} (hm : 1 ≤ m) (hlt : m ≤ t.length) (hf : m - 1 ≤ Pl.firstEnd t) (he : endN ((t[m - 1]'(by omega)).toNat : Int) = false) : m ≤ Pl.firstEnd t := by
  rw [endN_endB] at he
  rcases Nat.lt_or_ge (m - 1) (Pl.firstEnd t) with h | h
  · omega
  · have e : Pl.firstEnd t = m - 1 := by omega
    have := Pl.end_at_first (t := t) (by omega)
    simp only [e] at this
    rw [this] at he
    cases he
theorem first_here {t : List UInt8} {m : Nat} (hm : 1 ≤ m) (hlt : m ≤ t.length) (hf : m - 1 ≤ Pl.firstEnd t) (he : endN ((t[m - 1]'(by omega)).toNat : Int) = true) : Pl.firstEnd t = m - 1 := by
  rw [endN_endB] at he
  exact Pl.firstEnd_at (by omega) (fun j h hj => Pl.not_end_before h (by omega)) he

theorem pk_short {t : List UInt8} (h1 : t.length < 32) (h2 : t.length ≤ Pl.firstEnd t) : pk t = t.length := by
  have := Pl.firstEnd_le t
  unfold pk
  rw [if_pos (by omega)]
  omega

set_option maxHeartbeats 800000 in
theorem until_some (ib : Nat) (B cap off : Nat) (l : List UInt8) (w : World) (h : InAt w ib (some ⟨B, 0, none⟩) l.length cap off) (hn : l.length ≤ 1048576) (hlt : off < l.length) (hcap : l.length ≤ cap) (hb : BytesAt w B l) :
    Calls Tryd.prog 32 #[.pointer (some ⟨ib, 0, none⟩), .int .i64 0, .int .i64 33, .func (.func 33) #[] #[]] w fun e w' => e = .returned (.slice (some ⟨B, off, none⟩) (pk (l.drop off)) (cap - off)) ∧ ∃ q, w' = w.drewN q := by
  have HP : Hid (∀ m q, 1 ≤ m → m ≤ 33 → Calls Tryd.prog 22 #[.pointer (some ⟨ib, 0, none⟩), .int .i64 0, .int .i64 (m : Nat)] (w.drewN q) fun e w' => e = .returned (.slice (some ⟨B, off, none⟩) (min m (l.length - off)) (cap - off)) ∧ ∃ q, w' = w.drewN q) :=
    fun m q hm hm' => peek_some ib B cap off m l w h hn hm hm' hlt hcap hb q
  have HB : Hid (BytesAt w B l) := hb
  clear hb h
  have hlen : (l.drop off).length = l.length - off := List.length_drop
  have HLEN : Hid ((l.drop off).length = l.length - off) := hlen
  clear hlen
  go_enter Tryd.func32, Tryd.ntmps32
  go_wp2
  go_loopw [9] (fun i wr => ∃ m q : Nat, 1 ≤ m ∧ m ≤ 33 ∧ i = .int .i64 m ∧ m - 1 ≤ Pl.firstEnd (l.drop off) ∧ wr = w.drewN q) (fun i _ => 33 - (intOf i).toNat)
  case atStart => exact ⟨1, 0, by omega, by omega, rfl, by omega, rfl⟩
  case round =>
    obtain ⟨m, q, hm, hm', rfl, hf, rfl⟩ := hrel
    rcases Nat.lt_or_ge m 33 with hm3 | hm3
    · go_wp2_with fail
      refine (HP.out m q hm hm').mono ?_
      rintro e w' ⟨rfl, q2, rfl⟩
      rcases Nat.lt_or_ge (l.length - off) m with hs | hs
      · go_wp2
        go_ret
        refine ⟨ret_slice ?_, q2, rfl⟩
        rw [pk_short (t := l.drop off) (by rw [HLEN.out]; omega) (by rw [HLEN.out]; omega), HLEN.out]
        omega
      · have hmt : m - 1 < (l.drop off).length := by rw [HLEN.out]; omega
        obtain ⟨x, hx⟩ : ∃ x : Int, x = (((l.drop off)[m - 1]'hmt).toNat : Int) := ⟨_, rfl⟩
        have hx0 : 0 ≤ x := by omega
        have hx1 : x < 256 := by have := ((l.drop off)[m - 1]'hmt).toNat_lt; omega
        have hcx : (w.drewN q2).cell? ⟨B, off + (m - 1), none⟩ = some (.int .u8 x) := by
          have := (HB.out.drewN q2) (off + (m - 1)) (by omega)
          rw [this, hx, List.getElem_drop]
        have HX : Hid (x = (((l.drop off)[m - 1]'hmt).toNat : Int)) := hx
        clear hx
        have emin : min m (l.length - off) = m := by omega
        have HD : Hid (Calls Tryd.prog 33 #[.slice (some ⟨B, off, none⟩) m (cap - off)] (w.drewN q2) fun e w' => e = .returned (.bool (endN x)) ∧ w' = w.drewN q2) := done_any B off m (cap - off) x (w.drewN q2) hm (by omega) hx0 hx1 hcx
        rw [emin]
        clear emin hcx
        have hle : (m : Int) ≤ (m : Int) := by omega
        go_wp2_with fail
        refine HD.out.mono ?_
        rintro e w' ⟨rfl, hw⟩
        have hw' := hw.symm
        subst hw'
        by_cases he : endN x = true
        · have hpk : Hid (pk (l.drop off) = m) := by
            have := first_here (t := l.drop off) hm (by rw [HLEN.out]; omega) hf (by rw [← HX.out]; exact he)
            show pk (l.drop off) = m
            unfold pk
            rw [if_pos (by omega), HLEN.out]
            omega
          rw [he]
          clear he
          go_wp2
          go_ret
          exact ⟨ret_slice hpk.out.symm, q2, rfl⟩
        · have he' : endN x = false := by simpa using he
          have hf2 : m ≤ Pl.firstEnd (l.drop off) := first_step (t := l.drop off) hm (by rw [HLEN.out]; omega) hf (by rw [← HX.out]; exact he')
          rw [he']
          clear he he'
          go_wp2
          go_roundw
          case rel => exact ⟨m + 1, q2, by omega, by omega, by go_num, by omega, rfl⟩
          case measure => simp [intOf]; omega
    · have hme : m = 33 := by omega
      subst hme
      go_wp2_with fail
      refine (HP.out 33 q (by omega) (by omega)).mono ?_
      rintro e w' ⟨rfl, q2, rfl⟩
      go_wp2
      go_ret
      refine ⟨ret_slice ?_, q2, rfl⟩
      unfold pk
      rw [if_neg (by omega), HLEN.out]
end Go.Proofs.Qxb6608766aDoor
