/-
  WALK: pathTerm of several names.
-/
import Derived.Test.Qxb6613464aFmtWalkE
import Derived.Deep.DeepCutAuto
namespace Go.Proofs.Qxb6613464aFmt
open Go.RowKit

theorem setArgI (b n c : Nat) (i : Int) (j : Nat) (hij : i = j) (ad : Nat) (x : Option Addr) (v : Value) (w : World) (h : w.cell? ⟨b, 7, none⟩ = some (.slice (some ⟨ad, 0, none⟩) n c)) (hi : j < n) (h2 : w.cell? ⟨ad, j, none⟩ = some v) (hf : w.frozen? ⟨ad, j, none⟩ = false) :
    Calls Tryf.prog 15 #[.pointer (some ⟨b, 0, none⟩), .int .i64 i, .pointer x] w fun e w' => e = .returned (.tuple #[]) ∧ w' = w.setCell ⟨ad, j, none⟩ (.pointer x) := by
  subst hij; exact setArg b n c j ad x v w h hi h2 hf
/-- A new name, set at its place. -/
theorem PS.put {w0 w : World} {T ad m k : Nat} {ts : List ByteArray} (h : PS w0 w T ad m k ts) (hk : k < m) (hkt : k < ts.length) (i : Int) (hi : i = k) (nm : ByteArray) (hnm : nm = ts[k]) (w1 : World) (hw1 : w1 = (w.alloc (.cells #[.string ⟨#[]⟩, .int .i64 0, .int .i64 0] 61)).alloc (.cells (term0 0 nm) 69)) :
    Calls Tryf.prog 15 #[.pointer (some ⟨T, 0, none⟩), .int .i64 i, .pointer (some ⟨w.heap.size + 1, 0, none⟩)] w1 fun e w' => e = .returned (.tuple #[]) ∧ PS w0 w' T ad m (k + 1) ts := by
  subst hnm
  have hb1 : Below w.heap.size w w1 := by
    rw [hw1]
    exact ((Below.refl _ _).alloc (Nat.le_refl _) _).alloc (by simp) _
  obtain ⟨v, hv⟩ := (h.2.1.cell hk).1
  have hf := (h.2.1.cell hk).2
  have hlt := h.2.1.lt
  refine (setArgI T m m i k hi ad _ v w1 ((hb1.cell (p := ⟨T, 7, none⟩) h.1.1).trans h.1.2.2.2) hk ((hb1.cell (p := ⟨ad, k, none⟩) hlt).trans hv) ((World.frozen?_of_block (hb1.block ad hlt)).trans hf)).mono ?_
  rintro e w' ⟨he, hw'⟩
  refine ⟨he, ?_⟩
  rw [hw', hw1]
  exact h.step hk hkt _
theorem PS.begin (w : World) (m : Nat) (hm : m ≤ 2097152) (i : Int) (hi : i = m) (ts : List ByteArray) (w1 : World) (hw1 : w1 = (w.alloc (.cells #[.string ⟨#[]⟩, .int .i64 0, .int .i64 0] 61)).alloc (.cells (term0 3 ⟨#[]⟩) 69)) :
    Calls Tryf.prog 14 #[.pointer (some ⟨w.heap.size + 1, 0, none⟩), .int .i64 i] w1 fun e w' => e = .returned (.tuple #[]) ∧ PS w w' (w.heap.size + 1) (w.heap.size + 1 + 1) m 0 ts := by
  subst hi
  have hs1 : (w.alloc (.cells #[.string ⟨#[]⟩, .int .i64 0, .int .i64 0] 61)).heap.size = w.heap.size + 1 := by simp
  have hs2 : w1.heap.size = w.heap.size + 1 + 1 := by rw [hw1]; simp
  have hg : w1.heap[w.heap.size + 1]? = some (.cells (term0 3 ⟨#[]⟩) 69 (0, 0)) := by
    rw [hw1, ← hs1]; exact heap_alloc_new _ _
  refine (setArgs (w.heap.size + 1) m w1 (.slice none 0 0) hm (by omega) ?_ ?_).mono ?_
  · unfold World.cell?; rw [hg]; rfl
  · unfold World.frozen?; rw [hg]; simp
  · rintro e w' ⟨he, hw'⟩
    refine ⟨he, ?_⟩
    rw [hw', hs2, hw1]
    exact PS.start w m _ ts
theorem PS.strs {w0 w : World} {T ad m k : Nat} {ts : List ByteArray} (h : PS w0 w T ad m k ts) {b off : Nat} {ns : List ByteArray} (hb : b < w0.heap.size) (hs : StrsAt w0 b off ns) : StrsAt w b off ns := hs.below hb h.2.2.1
theorem PS.done {w0 w : World} {T ad m k : Nat} {ts : List ByteArray} (h : PS w0 w T ad m k ts) (hm : m = ts.length) (hk : k = ts.length) : SaysPath ts w (.returned (.pointer (some ⟨T, 0, none⟩))) ∧ Below w0.heap.size w0 w := by
  subst hm hk
  exact ⟨⟨T, rfl, .inr ⟨ad, h.1, h.2.1⟩⟩, h.2.2.1⟩
/-- What the path begins with. -/
def pre (ex : Bool) : List ByteArray := if ex then [par] else []

set_option maxHeartbeats 1600000 in
set_option maxRecDepth 100000 in
theorem path_many (b off c : Nat) (ns : List ByteArray) (ex : Bool) (w : World) (hl : ns.length ≤ 1048576) (hp : 1 ≤ ns.length) (hm : ex = true ∨ 2 ≤ ns.length) (hb : b < w.heap.size) (hst : StrsAt w b off ns) :
    Calls Tryf.prog 8 #[.slice (some ⟨b, off, none⟩) ns.length c, .bool ex] w fun e w' => SaysPath (pre ex ++ ns) w' e ∧ Below w.heap.size w w' := by
  have HST : Hid (StrsAt w b off ns) := hst
  have HM : Hid (ex = true ∨ 2 ≤ ns.length) := hm
  clear hst hm
  have HT3 : Hid (Calls Tryf.prog 13 #[pos0, .int .i64 3, .string ⟨#[]⟩, .int .u64 0, .string ⟨#[]⟩] w fun e w' => e = .returned (.pointer (some ⟨w.heap.size + 1, 0, none⟩)) ∧ w' = (w.alloc (.cells #[.string ⟨#[]⟩, .int .i64 0, .int .i64 0] 61)).alloc (.cells (term0 3 ⟨#[]⟩) 69)) := newTerm 3 ⟨#[]⟩ w
  go_enter Tryf.func8, Tryf.ntmps8
  go_upto_region 1 with fail
  go_cut [14] (fun q wx => wx = w ∧ q = .bool false)
  case first =>
    rcases HM.out with rfl | h2
    · by_cases h1 : (ns.length : Int) = 1
      · go_wp2
        go_meet
        exact ⟨rfl, rfl⟩
      · have h1' : ((ns.length : Int) == 1) = false := by rw [beq_eq_false_iff_ne]; exact h1
        go_wp2
        go_meet
        exact ⟨rfl, rfl⟩
    · have h1' : ((ns.length : Int) == 1) = false := by rw [beq_eq_false_iff_ne]; omega
      have h1'' : ¬ (ns.length = 1) := by omega
      go_wp2
      go_meet
      exact ⟨rfl, rfl⟩
  case rest =>
    obtain ⟨rfl, rfl⟩ := hcut
    clear HM
    cases ex
    · go_wp2_with fail
      refine HT3.out.mono ?_
      rintro e w1 ⟨rfl, hw1⟩
      have HW1 : Hid (w1 = (wc.alloc (.cells #[.string ⟨#[]⟩, .int .i64 0, .int .i64 0] 61)).alloc (.cells (term0 3 ⟨#[]⟩) 69)) := hw1
      clear hw1 HT3
      go_wp2_with fail
      refine (PS.begin wc ns.length (by omega) _ (by omega) ns w1 HW1.out).mono ?_
      rintro e w2 ⟨rfl, hps⟩
      have HPS : Hid (PS wc w2 (wc.heap.size + 1) (wc.heap.size + 1 + 1) ns.length 0 ns) := hps
      clear hps HW1
      generalize hTT : wc.heap.size + 1 = TT at HPS ⊢
      have HTT : Hid (wc.heap.size + 1 = TT) := hTT
      clear hTT
      generalize TT + 1 = AD at HPS
      go_wp2
      go_loopg [7] ns.length (fun g i wx => ∃ k : Nat, k ≤ ns.length ∧ g = ns.length - k ∧ i = .int .i64 k ∧ Hid (PS wc wx TT AD ns.length k ns))
      case atStart => exact ⟨0, by omega, by omega, rfl, HPS⟩
      case round =>
        obtain ⟨k, hk, hg, rfl, hps⟩ := hrel
        have HG : Hid (gk = ns.length - k) := hg
        clear hg HPS
        rcases Nat.lt_or_ge k ns.length with hlt | hge
        · have hck := hps.out.strs hb HST.out k hlt
          obtain ⟨x, hx⟩ : ∃ x, x = ns[k] := ⟨_, rfl⟩
          rw [← hx] at hck
          have HX : Hid (x = ns[k]) := hx
          clear hx
          have HT : Hid (Calls Tryf.prog 13 #[pos0, .int .i64 0, .string x, .int .u64 0, .string ⟨#[]⟩] wr fun e w' => e = .returned (.pointer (some ⟨wr.heap.size + 1, 0, none⟩)) ∧ w' = (wr.alloc (.cells #[.string ⟨#[]⟩, .int .i64 0, .int .i64 0] 61)).alloc (.cells (term0 0 x) 69)) := newTerm 0 x wr
          go_wp2_with fail
          refine HT.out.mono ?_
          rintro e w3 ⟨rfl, hw3⟩
          have HW3 : Hid (w3 = (wr.alloc (.cells #[.string ⟨#[]⟩, .int .i64 0, .int .i64 0] 61)).alloc (.cells (term0 0 x) 69)) := hw3
          clear hw3 HT
          go_wp2_with fail
          refine (hps.out.put hlt hlt _ (by omega) x HX.out w3 HW3.out).mono ?_
          rintro e w4 ⟨rfl, hps4⟩
          have HPS4 : Hid (PS wc w4 TT AD ns.length (k + 1) ns) := hps4
          clear hps4 hps HW3
          go_wp2
          go_roundg (ns.length - (k + 1))
          case rel => exact ⟨k + 1, by omega, rfl, by go_num, HPS4⟩
          case measure => have := HG.out; omega
        · have hke : k = ns.length := by omega
          subst hke
          go_wp2
          go_ret
          exact hps.out.done rfl rfl
    · have HLT : Hid ((par :: ns).length = ns.length + 1) := List.length_cons
      go_wp2_with fail
      refine HT3.out.mono ?_
      rintro e w1 ⟨rfl, hw1⟩
      have HW1 : Hid (w1 = (wc.alloc (.cells #[.string ⟨#[]⟩, .int .i64 0, .int .i64 0] 61)).alloc (.cells (term0 3 ⟨#[]⟩) 69)) := hw1
      clear hw1 HT3
      go_wp2_with fail
      refine (PS.begin wc (ns.length + 1) (by omega) _ (by omega) (par :: ns) w1 HW1.out).mono ?_
      rintro e w2 ⟨rfl, hps⟩
      have HPS : Hid (PS wc w2 (wc.heap.size + 1) (wc.heap.size + 1 + 1) (ns.length + 1) 0 (par :: ns)) := hps
      clear hps HW1
      generalize hTT : wc.heap.size + 1 = TT at HPS ⊢
      have HTT : Hid (wc.heap.size + 1 = TT) := hTT
      clear hTT
      generalize TT + 1 = AD at HPS
      have HT : Hid (Calls Tryf.prog 13 #[pos0, .int .i64 0, .string ⟨#[112, 97, 114, 101, 110, 116]⟩, .int .u64 0, .string ⟨#[]⟩] w2 fun e w' => e = .returned (.pointer (some ⟨w2.heap.size + 1, 0, none⟩)) ∧ w' = (w2.alloc (.cells #[.string ⟨#[]⟩, .int .i64 0, .int .i64 0] 61)).alloc (.cells (term0 0 ⟨#[112, 97, 114, 101, 110, 116]⟩) 69)) := newTerm 0 _ w2
      go_wp2_with fail
      refine HT.out.mono ?_
      rintro e w3 ⟨rfl, hw3⟩
      have HW3 : Hid (w3 = (w2.alloc (.cells #[.string ⟨#[]⟩, .int .i64 0, .int .i64 0] 61)).alloc (.cells (term0 0 ⟨#[112, 97, 114, 101, 110, 116]⟩) 69)) := hw3
      clear hw3 HT
      go_wp2_with fail
      refine (HPS.out.put (k := 0) (by omega) (by rw [HLT.out]; omega) _ rfl _ rfl w3 HW3.out).mono ?_
      rintro e w4 ⟨rfl, hps4⟩
      have HPS4 : Hid (PS wc w4 TT AD (ns.length + 1) 1 (par :: ns)) := hps4
      clear hps4 HPS HW3
      go_wp2
      go_loopg [7] ns.length (fun g i wx => ∃ k : Nat, k ≤ ns.length ∧ g = ns.length - k ∧ i = .int .i64 k ∧ Hid (PS wc wx TT AD (ns.length + 1) (k + 1) (par :: ns)))
      case atStart => exact ⟨0, by omega, by omega, rfl, HPS4⟩
      case round =>
        obtain ⟨k, hk, hg, rfl, hps⟩ := hrel
        have HG : Hid (gk = ns.length - k) := hg
        clear hg HPS4
        rcases Nat.lt_or_ge k ns.length with hlt | hge
        · have hck := hps.out.strs hb HST.out k hlt
          obtain ⟨x, hx⟩ : ∃ x, x = ns[k] := ⟨_, rfl⟩
          rw [← hx] at hck
          have HX : Hid (x = ns[k]) := hx
          clear hx
          have HT : Hid (Calls Tryf.prog 13 #[pos0, .int .i64 0, .string x, .int .u64 0, .string ⟨#[]⟩] wr fun e w' => e = .returned (.pointer (some ⟨wr.heap.size + 1, 0, none⟩)) ∧ w' = (wr.alloc (.cells #[.string ⟨#[]⟩, .int .i64 0, .int .i64 0] 61)).alloc (.cells (term0 0 x) 69)) := newTerm 0 x wr
          go_wp2_with fail
          refine HT.out.mono ?_
          rintro e w3 ⟨rfl, hw3⟩
          have HW3 : Hid (w3 = (wr.alloc (.cells #[.string ⟨#[]⟩, .int .i64 0, .int .i64 0] 61)).alloc (.cells (term0 0 x) 69)) := hw3
          clear hw3 HT
          go_wp2_with fail
          refine (hps.out.put (k := k + 1) (by omega) (by rw [HLT.out]; omega) _ (by omega) x (by rw [HX.out, List.getElem_cons_succ]) w3 HW3.out).mono ?_
          rintro e w4 ⟨rfl, hps4⟩
          have HPS5 : Hid (PS wc w4 TT AD (ns.length + 1) (k + 1 + 1) (par :: ns)) := hps4
          clear hps4 hps HW3
          go_wp2
          go_roundg (ns.length - (k + 1))
          case rel => exact ⟨k + 1, by omega, rfl, by go_num, HPS5⟩
          case measure => have := HG.out; omega
        · have hke : k = ns.length := by omega
          subst hke
          go_wp2
          go_ret
          exact hps.out.done HLT.out.symm HLT.out.symm
end Go.Proofs.Qxb6613464aFmt
