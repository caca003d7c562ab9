/-
  WALKS: quote, malformed, ZZmalformed.
-/
import Derived.Test.Qxb6608766aDoorWalkH
namespace Go.Proofs.Qxb6608766aDoor
open Go.RowKit

/-- A buffer that the law has made: the bytes of l, from the head of a block of its own on. -/
def Buf (w : World) (a : Option Addr) (cap : Nat) (l : List UInt8) : Prop :=
  l.length ≤ cap ∧ cap ≤ 9223372036854775807 ∧ (a = none → cap = 0) ∧ (0 < l.length → ∃ B, a = some ⟨B, 0, none⟩ ∧ B < w.heap.size ∧ BytesAt w B l)
theorem Buf.below {w w' : World} {a : Option Addr} {cap : Nat} {l : List UInt8} (h : Buf w a cap l) (hb : Below w.heap.size w w') : Buf w' a cap l := by
  obtain ⟨h1, h2, h3, h4⟩ := h
  refine ⟨h1, h2, h3, fun hp => ?_⟩
  obtain ⟨B, ha, hB, hc⟩ := h4 hp
  exact ⟨B, ha, Nat.lt_of_lt_of_le hB hb.size, fun j hj => (hb.cell (p := ⟨B, j, none⟩) hB).trans (hc j hj)⟩
theorem exS_size (T : Lib.PrintTabs) (t : List UInt8) (h : t.length ≤ 33) : (exS T t).size ≤ 400 := by
  have hd : dots.size = 3 := rfl
  unfold exS
  split
  · have := QS_size T (t.take (max (Pl.firstEnd t) 1))
    rw [List.length_take] at this
    omega
  · split
    · have := QS_size T t
      omega
    · have := QS_size T (t.take (Pl.cutOf t))
      rw [List.length_take] at this
      rw [ByteArray.size_append, hd]
      omega
/-- The excerpt of the text at off. -/
def exOf (T : Lib.PrintTabs) (l : List UInt8) (off : Nat) : ByteArray := exS T ((l.drop off).take 33)
theorem exOf_size (T : Lib.PrintTabs) (l : List UInt8) (off : Nat) : (exOf T l off).size ≤ 400 := exS_size T _ (by rw [List.length_take]; omega)

set_option maxHeartbeats 400000 in
theorem quote_in (T : Lib.PrintTabs) (ib : Nat) (a : Option Addr) (cap off : Nat) (l : List UInt8) (w : World) (h : InAt w ib a l.length cap off) (hn : l.length ≤ 1048576) (hoff : off ≤ l.length) (hb : Buf w a cap l) (hT : Tabs T w) :
    Calls Tryd.prog 28 #[.pointer (some ⟨ib, 0, none⟩), .int .i64 0] w fun e w' => e = .returned (.string (exOf T l off)) ∧ Below w.heap.size w w' := by
  obtain ⟨h1, h2, h3, h4⟩ := hb
  rcases Nat.lt_or_ge off l.length with hlt | hge
  · obtain ⟨B, ha, hB, hc⟩ := h4 (by omega)
    subst ha
    have HU : Hid (Calls Tryd.prog 32 #[.pointer (some ⟨ib, 0, none⟩), .int .i64 0, .int .i64 33, .func (.func 33) #[] #[]] w fun e w' => e = .returned (.slice (some ⟨B, off, none⟩) (pk (l.drop off)) (cap - off)) ∧ ∃ q, w' = w.drewN q) := until_some ib B cap off l w h hn hlt h1 hc
    have hpl : pk (l.drop off) ≤ 33 ∧ pk (l.drop off) ≤ l.length - off := by
      unfold pk
      rw [List.length_drop]
      split <;> omega
    have hlen : ((l.drop off).take (pk (l.drop off))).length = pk (l.drop off) := by
      rw [List.length_take, List.length_drop]; omega
    have HE : Hid (∀ q, Calls Tryd.prog 31 #[.slice (some ⟨B, off, none⟩) (pk (l.drop off)) (cap - off)] (w.drewN q) fun e w' => e = .returned (.string (exOf T l off)) ∧ Below w.heap.size w w') := fun q => by
      have hco : BytesOff (w.drewN q) B off ((l.drop off).take (pk (l.drop off))) := fun j hj => by
        rw [hlen] at hj
        rw [List.getElem_take, List.getElem_drop]
        exact hc (off + j) (by omega)
      have := exc_some T B off (cap - off) _ (w.drewN q) (by rw [hlen]; omega) (by rw [hlen]; omega) hB hco (hT.drewN q)
      rw [hlen, exS_pk] at this
      exact this.mono fun e w' ⟨he, hb⟩ => ⟨he, (bdN (Below.refl _ w) q).trans hb⟩
    generalize pk (l.drop off) = m at HU HE hpl hlen
    clear hlen hc h
    go_enter Tryd.func28, Tryd.ntmps28
    go_wp2_with fail
    refine HU.out.mono ?_
    rintro e w' ⟨rfl, q, rfl⟩
    go_wp2_with fail
    refine (HE.out q).mono ?_
    rintro e w2 ⟨rfl, hb2⟩
    go_wp2
    go_ret
    exact ⟨rfl, hb2⟩
  · have hoe : off = l.length := by omega
    subst hoe
    have hex : exOf T l l.length = QS T [] := by
      unfold exOf; rw [List.drop_length, List.take_nil, exS_empty]
    have HU : Hid (Calls Tryd.prog 32 #[.pointer (some ⟨ib, 0, none⟩), .int .i64 0, .int .i64 33, .func (.func 33) #[] #[]] w fun e w' => SaysEmpty e ∧ ∃ q, w' = w.drewN q) := until_none ib a l.length cap w h hn h1 h2 h3
    have HE : Hid (∀ p c q, Calls Tryd.prog 31 #[.slice p 0 c] (w.drewN q) fun e w' => e = .returned (.string (QS T [])) ∧ Below w.heap.size w w') := fun p c q =>
      (exc_empty T p c (w.drewN q) (hT.drewN q)).mono fun e w' ⟨he, hb⟩ => ⟨he, (bdN (Below.refl _ w) q).trans hb⟩
    rw [hex]
    clear hex h h4
    go_enter Tryd.func28, Tryd.ntmps28
    go_wp2_with fail
    refine HU.out.mono ?_
    rintro e w' ⟨⟨p, c, hc, rfl⟩, q, rfl⟩
    go_wp2_with fail
    refine (HE.out p c q).mono ?_
    rintro e w2 ⟨rfl, hb2⟩
    go_wp2
    go_ret
    exact ⟨rfl, hb2⟩

def colon : ByteArray := ⟨#[58, 32]⟩

set_option maxHeartbeats 400000 in
theorem malformed_in (T : Lib.PrintTabs) (ib : Nat) (a : Option Addr) (cap off : Nat) (l : List UInt8) (s : ByteArray) (w : World) (h : InAt w ib a l.length cap off) (hn : l.length ≤ 1048576) (hoff : off ≤ l.length) (hb : Buf w a cap l) (hT : Tabs T w) (hs : s.size ≤ 4194304) :
    Calls Tryd.prog 23 #[.pointer (some ⟨ib, 0, none⟩), .string s] w fun e w' => e = .returned (.string (exOf T l off ++ colon ++ s)) ∧ Below w.heap.size w w' := by
  have HQ : Hid (Calls Tryd.prog 28 #[.pointer (some ⟨ib, 0, none⟩), .int .i64 0] w fun e w' => e = .returned (.string (exOf T l off)) ∧ Below w.heap.size w w') := quote_in T ib a cap off l w h hn hoff hb hT
  have hsz := exOf_size T l off
  generalize exOf T l off = x at HQ hsz
  clear h hb hT
  go_enter Tryd.func23, Tryd.ntmps23
  go_wp2_with fail
  refine HQ.out.mono ?_
  rintro e w2 ⟨rfl, hb2⟩
  go_wp2
  go_ret
  exact ⟨rfl, hb2⟩

set_option maxHeartbeats 400000 in
theorem zzmalformed (T : Lib.PrintTabs) (ib : Nat) (a : Option Addr) (cap off : Nat) (l : List UInt8) (s : ByteArray) (w : World) (h : InAt w ib a l.length cap off) (hn : l.length ≤ 1048576) (hoff : off ≤ l.length) (hb : Buf w a cap l) (hT : Tabs T w) (hs : s.size ≤ 4194304) :
    Calls Tryd.prog 16 #[.pointer (some ⟨ib, 0, none⟩), .string s] w fun e w' => e = .returned (.string (exOf T l off ++ colon ++ s)) ∧ Below w.heap.size w w' := by
  have HM : Hid (Calls Tryd.prog 23 #[.pointer (some ⟨ib, 0, none⟩), .string s] w fun e w' => e = .returned (.string (exOf T l off ++ colon ++ s)) ∧ Below w.heap.size w w') := malformed_in T ib a cap off l s w h hn hoff hb hT hs
  generalize exOf T l off ++ colon ++ s = x at HM
  clear h hb hT
  go_enter Tryd.func16, Tryd.ntmps16
  go_wp2_with fail
  refine HM.out.mono ?_
  rintro e w2 ⟨rfl, hb2⟩
  go_wp2
  go_ret
  exact ⟨rfl, hb2⟩
end Go.Proofs.Qxb6608766aDoor
