/-
  WALK: the law itself.
-/
import Derived.Test.Qxb6608748aFmtWalkG
import Derived.Laws.OwnMore
namespace Go.Proofs.Qxb6608748aFmt
open Go.RowKit
open Go.WideMaps

def nm (ss : List ByteArray) (j : Nat) : ByteArray := ss.getD j ByteArray.empty
def fo (ss : List ByteArray) (j : Nat) : List UInt8 := (nm ss j).data.toList.map Pl.foldB
def FL (ss : List ByteArray) (k : Nat) : List (List UInt8) := (List.range k).map (fo ss)
theorem FL_succ (ss : List ByteArray) (k : Nat) : FL ss (k + 1) = FL ss k ++ [fo ss k] := by simp [FL, List.range_succ]
theorem FL_length (ss : List ByteArray) (k : Nat) : (FL ss k).length = k := by simp [FL]
theorem FL_at (ss : List ByteArray) {k j : Nat} (h : j < k) : (FL ss k)[j]? = some (fo ss j) := by simp [FL, h]
theorem fo_len (ss : List ByteArray) (j : Nat) : (fo ss j).length = (nm ss j).size := by unfold fo; rw [List.length_map]; rfl

theorem nodup_snoc {L : List (List UInt8)} {x : List UInt8} (h : L.Nodup) (hx : x ∉ L) : (L ++ [x]).Nodup := by
  rw [List.nodup_append]
  exact ⟨h, by simp, fun a ha b hb => by rw [List.mem_singleton.1 hb]; exact fun e => hx (e ▸ ha)⟩
theorem good_snoc' {ss : List ByteArray} {n : Nat} (h : ∀ j, j < n → Pl.Good (nm ss j).data.toList) (hn : Pl.Good (nm ss n).data.toList) : ∀ j, j < n + 1 → Pl.Good (nm ss j).data.toList := fun j hj => by
  by_cases e : j = n
  · rw [e]; exact hn
  · exact h j (by omega)
theorem info31 : (Tryf.prog.info? 31).map (fun i => (i.zero, i.size, i.bytes)) = some (some (.agg #[.string ⟨#[]⟩, .int .u8 0, .int .i64 0, .bool false]), 4, 40) := by kernel_rfl
/-- A row of n columns of four cells each lies at the head of block C. -/
def ColsAt (w : World) (C n : Nat) : Prop := ∃ cur : Array Value, w.heap[C]? = some (.cells cur 31 (0, 0)) ∧ cur.size = n * 4
theorem idx_made' (w : World) (o : Obj) : IdxAt ((w.alloc o).alloc (.map #[] 0)) (w.heap.size + 1) 0 [] := by
  have := idx_made (w.alloc o)
  rwa [World.size_alloc] at this
theorem cols_made (w : World) (cur : Array Value) (n : Nat) (h : cur.size = n * 4) : ColsAt ((w.alloc (.cells cur 31)).alloc (.map #[] 0)) w.heap.size n :=
  ⟨cur, (Below.heap_alloc _ _ _ (by simp)).trans (heap_alloc_new w _), h⟩
theorem cols_cells {w : World} {C n : Nat} (h : ColsAt w C n) {p : Nat} (hp : p < n) :
    (∃ v, w.cell? ⟨C, p * 4, none⟩ = some v ∧ w.frozen? ⟨C, p * 4, none⟩ = false) ∧ (∃ v, w.cell? ⟨C, p * 4 + 1, none⟩ = some v ∧ w.frozen? ⟨C, p * 4 + 1, none⟩ = false) ∧
    (∃ v, w.cell? ⟨C, p * 4 + 2, none⟩ = some v ∧ w.frozen? ⟨C, p * 4 + 2, none⟩ = false) ∧ (∃ v, w.cell? ⟨C, p * 4 + 3, none⟩ = some v ∧ w.frozen? ⟨C, p * 4 + 3, none⟩ = false) := by
  obtain ⟨cur, hb, hs⟩ := h
  have hx : ∀ j, j < n * 4 → ∃ v, w.cell? ⟨C, j, none⟩ = some v ∧ w.frozen? ⟨C, j, none⟩ = false := fun j hj => by
    refine ⟨cur[j], ?_, ?_⟩
    · unfold World.cell?
      rw [hb]
      simp [hs, hj]
    · unfold World.frozen?
      rw [hb]
      simp
  exact ⟨hx _ (by omega), hx _ (by omega), hx _ (by omega), hx _ (by omega)⟩
theorem ColsAt.set {w : World} {C n : Nat} (h : ColsAt w C n) (j : Nat) (u : Value) : ColsAt (w.setCell ⟨C, j, none⟩ u) C n := by
  obtain ⟨cur, hb, hs⟩ := h
  exact ⟨_, heap_setCell_same w C j cur 31 u hb, by simpa using hs⟩
theorem ColsAt.set4 {w : World} {C n : Nat} (h : ColsAt w C n) (j0 j1 j2 j3 : Nat) : ∀ u0 u1 u2 u3 : Value, ColsAt ((((w.setCell ⟨C, j0, none⟩ u0).setCell ⟨C, j1, none⟩ u1).setCell ⟨C, j2, none⟩ u2).setCell ⟨C, j3, none⟩ u3) C n :=
  fun _ _ _ _ => (((h.set _ _).set _ _).set _ _).set _ _
theorem ColsAt.kept {w w' : World} {C n : Nat} {row : Option Nat} (h : ColsAt w C n) (hg : w.grownBy w' row) (hne : some C ≠ row) : ColsAt w' C n := by
  obtain ⟨cur, hb, hs⟩ := h
  exact ⟨cur, (hg.block C (Array.getElem?_eq_some_iff.1 hb).1 hne).trans hb, hs⟩
theorem IdxAt.set {w : World} {B n : Nat} {L : List (List UInt8)} (h : IdxAt w B n L) (C : Nat) (hC : B ≠ C) (j : Nat) (u : Value) : IdxAt (w.setCell ⟨C, j, none⟩ u) B n L := by
  obtain ⟨D, hown, hD⟩ := h
  exact ⟨D, hown.setCell hC u, hD⟩
theorem IdxAt.set4 {w : World} {B n : Nat} {L : List (List UInt8)} (h : IdxAt w B n L) (C : Nat) (hC : B ≠ C) (j0 j1 j2 j3 : Nat) : ∀ u0 u1 u2 u3 : Value, IdxAt ((((w.setCell ⟨C, j0, none⟩ u0).setCell ⟨C, j1, none⟩ u1).setCell ⟨C, j2, none⟩ u2).setCell ⟨C, j3, none⟩ u3) B n L :=
  fun _ _ _ _ => (((h.set C hC _ _).set C hC _ _).set C hC _ _).set C hC _ _
theorem cell_set4 {w : World} {C j0 j1 j2 j3 : Nat} {u0 u1 u2 u3 : Value} {b o : Nat} {v : Value} (hne : b ≠ C) (h : w.cell? ⟨b, o, none⟩ = some v) :
    ((((w.setCell ⟨C, j0, none⟩ u0).setCell ⟨C, j1, none⟩ u1).setCell ⟨C, j2, none⟩ u2).setCell ⟨C, j3, none⟩ u3).cell? ⟨b, o, none⟩ = some v := by
  have hs : ∀ (w : World) j u, (w.setCell ⟨C, j, none⟩ u).cell? ⟨b, o, none⟩ = w.cell? ⟨b, o, none⟩ := fun w j u =>
    World.cell?_of_block (Below.heap_setCell w ⟨C, j, none⟩ u b hne)
  rw [hs, hs, hs, hs, h]
theorem fold_nm (ss : List ByteArray) (p : Nat) (W : World) (h : (nm ss p).size ≤ maxLen) :
    Calls Tryf.prog 6 #[.string (nm ss p)] W fun e w' => e = .returned (.string ⟨(fo ss p).toArray⟩) ∧ Below W.heap.size W w' := fold_any (nm ss p) W h
theorem FL_new {ss : List ByteArray} {n p : Nat} (h : (FL ss n).Nodup) (hp : p < n) : fo ss p ∉ FL ss p := by
  intro hm
  have e : FL ss n = FL ss p ++ (fo ss p :: (List.range' (p + 1) (n - (p + 1))).map (fo ss)) := by
    have : List.range n = List.range p ++ (p :: List.range' (p + 1) (n - (p + 1))) := by
      rw [List.range_eq_range', List.range_eq_range']
      have h1 : List.range' 0 n = List.range' 0 (p + (1 + (n - (p + 1)))) := by congr 1; omega
      rw [h1, ← List.range'_append_1, ← List.range'_append_1]
      simp
    unfold FL
    rw [this]
    simp
  rw [e, List.nodup_append] at h
  exact h.2.2 _ hm _ (List.mem_cons_self ..) rfl
def fl (ss : List ByteArray) (j : Nat) : ByteArray := ⟨((nm ss j).data.toList.map Pl.flipB).toArray⟩
theorem fl_size (ss : List ByteArray) (j : Nat) : (fl ss j).size = (nm ss j).size := by
  unfold fl
  show (((nm ss j).data.toList.map Pl.flipB).toArray).size = _
  rw [List.size_toArray, List.length_map]; rfl
theorem flip_nm (ss : List ByteArray) (p : Nat) (W : World) (h : (nm ss p).size ≤ maxLen) :
    Calls Tryf.prog 10 #[.string (nm ss p)] W fun e w' => e = .returned (.string (fl ss p)) ∧ Below W.heap.size W w' := flip_any (nm ss p) W h
theorem TableAt.below {w w' : World} {tb m : Nat} {key : Int} (h : TableAt w tb m key) (hb : Below w.heap.size w w') : TableAt w' tb m key := by
  have h1 := World.block_lt_of_cell? w _ h.1
  exact ⟨(hb.cell (p := ⟨tb, 4, none⟩) h1).trans h.1, (hb.cell (p := ⟨tb, 5, none⟩) h1).trans h.2⟩
theorem col_nm {wd w1 : World} {tb m n p j : Nat} {key : Int} {ss : List ByteArray} (ht : TableAt wd tb m key) (hI : IdxAt wd m n (FL ss p)) (hT : Lib.Utf8Tabs 1 2 wd) (hb : Below wd.heap.size wd w1) (hj : j < p)
    (hg : Pl.Good (nm ss j).data.toList) (hz : (nm ss j).size ≤ maxLen) (hs : (nm ss j).size < 35184372088832) :
    Calls Tryf.prog 9 #[.pointer (some ⟨tb, 0, none⟩), .string (fl ss j)] w1 fun e w' => e = .returned (.tuple #[.int .i64 j, .nilIface]) ∧ Below w1.heap.size w1 w' := by
  refine col_any tb m n key (fl ss j) (FL ss p) j (fo ss j) w1 (ht.below hb) (hI.below hb) (FL_at ss hj) (by rw [fo_len]; exact hz) ?_ (by rw [fl_size]; exact hs) (Utf8Tabs_below hT hb)
  have e : (fl ss j).data.toList = (nm ss j).data.toList.map Pl.flipB := by simp [fl]
  rw [e]
  exact Pl.fold_good hg
def Small (ss : List ByteArray) (k : Nat) : Prop := ∀ j, j < k → (nm ss j).size ≤ 1048576
theorem small_snoc {ss : List ByteArray} {k : Nat} (h : Small ss k) (hk : (nm ss k).size ≤ 1048576) : Small ss (k + 1) := fun j hj => by
  by_cases e : j = k
  · rw [e]; exact hk
  · exact h j (by omega)
theorem makeHint24 (n : Int) (w : World) : (Instr.makeMap 24 (some (.int .i64 n))).run Tryf.prog w = .ok (.map (some w.heap.size)) (w.alloc (.map #[] 0)) := by kernel_rfl
theorem makeHint28 (n : Int) (w : World) : (Instr.makeMap 28 (some (.int .i64 n))).run Tryf.prog w = .ok (.map (some w.heap.size)) (w.alloc (.map #[] 0)) := by kernel_rfl

set_option maxHeartbeats 800000 in
set_option maxRecDepth 100000 in
theorem law_some (b off len cap : Nat) (ss : List ByteArray) (key : Int) (w : World) (hpos : 0 < len) (hl : len ≤ maxLen)
    (hc : ∀ j, j < len → w.cell? ⟨b, off + j, none⟩ = some (.string (nm ss j))) (hz : ∀ j, (nm ss j).size ≤ maxLen) (hb : b < w.heap.size) (hT : Lib.Utf8Tabs 1 2 w) :
    Calls Tryf.prog 3 #[.slice (some ⟨b, off, none⟩) len cap, .int .i64 key] w fun e w' => e = .returned (.bool true) ∧ Below w.heap.size w w' := by
  have HB := bytes_any b off len cap ss key w hl hc hz
  have HB' : Hid (Calls Tryf.prog 4 #[.slice (some ⟨b, off, none⟩) len cap, .int .i64 key] w fun e w' => SaysBool e ∧ w' = w) := HB
  clear HB
  unfold maxLen at hl
  go_enter Tryf.func3, Tryf.ntmps3
  go_wp2_with fail
  refine HB'.out.mono ?_
  rintro e w' ⟨⟨q, rfl⟩, hw⟩
  have hw' := hw.symm
  subst hw'
  clear hw
  cases q
  · go_wp2
    go_ret
    exact ⟨rfl, Below.refl _ _⟩
  · rcases Int.lt_or_le 32768 (len : Int) with hbig | hbig
    · go_wp2
      go_ret
      exact ⟨rfl, Below.refl _ _⟩
    · go_wp2
      go_loop [5, 6] (fun z i => ∃ k : Nat, ∃ q : Int, k ≤ len ∧ 0 ≤ q ∧ q ≤ 1048576 ∧ z = .int .i64 q ∧ i = .int .i64 k ∧ Small ss k) (fun _ i => len - (intOf i).toNat)
      case atStart => exact ⟨0, 16 * len, by omega, by omega, by omega, by go_num, rfl, fun j hj => by omega⟩
      case round =>
        obtain ⟨k, q, hk, hq0, hq1, rfl, rfl, hsm0⟩ := hrel
        by_cases hlt : k < len
        · have hck := hc k hlt
          have hzk := hz k
          unfold maxLen at hzk
          go_wp2
          · go_ret
            exact ⟨rfl, Below.refl _ _⟩
          · go_ret
            exact ⟨rfl, Below.refl _ _⟩
          · go_round
            case rel => exact ⟨k + 1, q + (nm ss k).size, by omega, by omega, by omega, by go_num, by go_num, small_snoc hsm0 (by omega)⟩
            case measure => simp [intOf]; omega
        · have hsm : Small ss len := by
            have e : k = len := by omega
            rw [← e]; exact hsm0
          rcases (by omega : key < 0 ∨ (0 ≤ key ∧ (len : Int) ≤ key) ∨ (0 ≤ key ∧ key < (len : Int))) with hkey | ⟨hkey, hkey'⟩ | ⟨hkey, hkey'⟩
          · go_wp2
            go_ret
            exact ⟨rfl, Below.refl _ _⟩
          · go_wp2
            go_ret
            exact ⟨rfl, Below.refl _ _⟩
          · have hm24 := makeHint24
            go_wp2
            · go_ret
              exact ⟨rfl, Below.refl _ _⟩
            clear hm24
            go_loopw [8] (fun i wr => ∃ n : Nat, n ≤ len ∧ i = .int .i64 n ∧ SeenAt wr w.heap.size n (FL ss n) ∧ (FL ss n).Nodup ∧ (∀ j, j < n → Pl.Good (nm ss j).data.toList) ∧ Below w.heap.size w wr) (fun i _ => len - (intOf i).toNat)
            case atStart => exact ⟨0, by omega, rfl, seen_made w, List.nodup_nil, fun j hj => by omega, (Below.refl _ _).alloc (Nat.le_refl _) _⟩
            case round =>
              obtain ⟨n, hn, rfl, hseen, hnd, hgood, hbel⟩ := hrel
              have hzn := hz n
              unfold maxLen at hzn
              rcases Nat.lt_or_ge n len with hlt | hge
              · have hcn : wr.cell? ⟨b, off + n, none⟩ = some (.string (nm ss n)) := (hbel.cell (p := ⟨b, off + n, none⟩) hb).trans (hc n hlt)
                have HV : Hid (Calls Tryf.prog 5 #[.string (nm ss n)] wr fun e w' => SaysGood (nm ss n) e ∧ w' = wr) := valid_any (nm ss n) wr (hz n)
                have HFo : Hid (Calls Tryf.prog 6 #[.string (nm ss n)] wr fun e w' => e = .returned (.string ⟨(fo ss n).toArray⟩) ∧ Below wr.heap.size wr w') := fold_any (nm ss n) wr (hz n)
                go_wp2_with fail
                refine HV.out.mono ?_
                rintro e w' ⟨⟨q, rfl, hq⟩, hw⟩
                have hw' := hw.symm
                subst hw'
                clear hw
                cases q
                · go_wp2
                  go_ret
                  exact ⟨rfl, hbel⟩
                · have hg : Pl.Good (nm ss n).data.toList := hq rfl
                  go_wp2_with fail
                  refine HFo.out.mono ?_
                  rintro e w1 ⟨rfl, hb1⟩
                  have hs1 := hseen.below hb1
                  have hfl : (fo ss n).length ≤ maxLen := by rw [fo_len]; exact hz n
                  have hbw : Below w.heap.size w w1 := hbel.trans (hb1.mono hbel.size)
                  clear hseen HV HFo hcn hq
                  by_cases hin : fo ss n ∈ FL ss n
                  · have hlk := hs1.look hfl (decide_eq_true hin)
                    clear hin
                    go_wp2
                    go_ret
                    exact ⟨rfl, hbw⟩
                  · have hlk := hs1.look hfl (decide_eq_false hin)
                    have HIN : Hid (fo ss n ∉ FL ss n) := hin
                    obtain ⟨w2, hup, hs2, hg2⟩ := hs1.put (by unfold maxLen; omega) hfl
                    clear hin hs1
                    go_wp2
                    go_roundw
                    case rel => exact ⟨n + 1, by omega, by go_num, by rw [FL_succ]; exact hs2, by rw [FL_succ]; exact nodup_snoc hnd HIN.out, good_snoc' hgood hg, hbw.grown hg2 hbw.size (fun k hk => by cases hk; exact Nat.le_refl _)⟩
                    case measure => simp [intOf]; omega
              · have hne : n = len := by omega
                subst hne
                rename World => wa
                obtain ⟨i0, hi, hz0, hz1, hz2⟩ := info_parts info31
                have hmk := run_makeSlice (P := Tryf.prog) (w := wa) 27 31 i0 _ Tryf.underlying27 hi hz0 .i64 .i64 (n : Int) (n : Int) (by omega) (by omega) (by rw [hz1]; omega) (by rw [hz2]; omega) (by omega)
                have hm28 := makeHint28
                rw [hz1] at hmk
                clear hi hz0 hz1 hz2
                go_wp2
                clear hmk hm28 hseen
                go_loopw [12] (fun i wr => ∃ p : Nat, p ≤ n ∧ i = .int .i64 p ∧ IdxAt wr (wa.heap.size + 1) p (FL ss p) ∧ ColsAt wr wa.heap.size n ∧ Below wa.heap.size wa wr) (fun i _ => n - (intOf i).toNat)
                case atStart => exact ⟨0, by omega, rfl, idx_made' wa _, cols_made wa _ n (size_madeCells _ _), ((Below.refl _ wa).alloc (Nat.le_refl _) _).alloc (by simp) _⟩
                case round =>
                  obtain ⟨p, hp, rfl, hidx, hcols, hbx⟩ := hrel
                  have hzp := hz p
                  unfold maxLen at hzp
                  have hbx' : Below w.heap.size w wr := hbel.trans (hbx.mono hbel.size)
                  rcases Nat.lt_or_ge p n with hlt | hge2
                  · have hcp : wr.cell? ⟨b, off + p, none⟩ = some (.string (nm ss p)) := (hbx'.cell (p := ⟨b, off + p, none⟩) hb).trans (hc p hlt)
                    obtain ⟨⟨v0, e0, f0⟩, ⟨v1, e1, f1⟩, ⟨v2, e2, f2⟩, ⟨v3, e3, f3⟩⟩ := cols_cells hcols hlt
                    have hix := hidx.set4 wa.heap.size (by omega) (p * 4) (p * 4 + 1) (p * 4 + 2) (p * 4 + 3)
                    have hcs := hcols.set4 (p * 4) (p * 4 + 1) (p * 4 + 2) (p * 4 + 3)
                    have HIX : Hid (∀ u0 u1 u2 u3 : Value, IdxAt ((((wr.setCell ⟨wa.heap.size, p * 4, none⟩ u0).setCell ⟨wa.heap.size, p * 4 + 1, none⟩ u1).setCell ⟨wa.heap.size, p * 4 + 2, none⟩ u2).setCell ⟨wa.heap.size, p * 4 + 3, none⟩ u3) (wa.heap.size + 1) p (FL ss p)) := hix
                    have HCS : Hid (∀ u0 u1 u2 u3 : Value, ColsAt ((((wr.setCell ⟨wa.heap.size, p * 4, none⟩ u0).setCell ⟨wa.heap.size, p * 4 + 1, none⟩ u1).setCell ⟨wa.heap.size, p * 4 + 2, none⟩ u2).setCell ⟨wa.heap.size, p * 4 + 3, none⟩ u3) wa.heap.size n) := hcs
                    clear hix hcs hidx hcols
                    have hc4 : ∀ u0 u1 u2 u3 : Value, ((((wr.setCell ⟨wa.heap.size, p * 4, none⟩ u0).setCell ⟨wa.heap.size, p * 4 + 1, none⟩ u1).setCell ⟨wa.heap.size, p * 4 + 2, none⟩ u2).setCell ⟨wa.heap.size, p * 4 + 3, none⟩ u3).cell? ⟨b, off + p, none⟩ = some (.string (nm ss p)) := fun u0 u1 u2 u3 => cell_set4 (by have := hbel.size; omega) hcp
                    go_wp2_with fail
                    refine (fold_nm ss p _ (hz p)).mono ?_
                    rintro e w1 ⟨rfl, hb1⟩
                    have hix1 := (HIX.out _ _ _ _).below hb1
                    have hcs1 := (HCS.out _ _ _ _).kept (below_grown hb1) (by simp)
                    have hbw1 : Below wa.heap.size wa w1 := ((((hbx.setCell (p := ⟨wa.heap.size, p * 4, none⟩) (Nat.le_refl _) _).setCell (p := ⟨wa.heap.size, p * 4 + 1, none⟩) (Nat.le_refl _) _).setCell (p := ⟨wa.heap.size, p * 4 + 2, none⟩) (Nat.le_refl _) _).setCell (p := ⟨wa.heap.size, p * 4 + 3, none⟩) (Nat.le_refl _) _).trans (hb1.mono (by have := hbx.size; simp; omega))
                    have hfl : (fo ss p).length ≤ maxLen := by rw [fo_len]; exact hz p
                    obtain ⟨w2, hup, hs2, hg2⟩ := hix1.put (by unfold maxLen; omega) hfl (FL_new hnd hlt) (i := p) (FL_length ss p).symm (by rw [FL_length]; unfold maxLen; omega)
                    clear hc4 HIX HCS hix1 hcp e0 e1 e2 e3 f0 f1 f2 f3
                    go_wp2
                    go_roundw
                    case rel => exact ⟨p + 1, by omega, by go_num, by rw [FL_succ]; exact hs2, hcs1.kept hg2 (by simp), hbw1.grown hg2 hbw1.size (fun k hk => by cases hk; omega)⟩
                    case measure => simp [intOf]; omega
                  · have hpe : p = n := by omega
                    subst hpe
                    rename World => wc
                    have HNT : Hid (Calls Tryf.prog 7 #[.string ⟨#[116]⟩, .slice (some ⟨wa.heap.size, 0, none⟩) p p, .map (some (wa.heap.size + 1)), .int .i64 key] wc fun e w' => e = .returned (.pointer (some ⟨wc.heap.size, 0, none⟩)) ∧ TableAt w' wc.heap.size (wa.heap.size + 1) key ∧ Below wc.heap.size wc w') := newTable _ _ _ _ _ _ _
                    clear hcols
                    go_wp2_with fail
                    refine HNT.out.mono ?_
                    rintro e wd ⟨rfl, htab, hbd⟩
                    have hidx' := hidx.below hbd
                    have hbwd : Below w.heap.size w wd := hbx'.trans (hbd.mono hbx'.size)
                    clear hidx hbx HNT
                    have HK : Hid (Calls Tryf.prog 8 #[.pointer (some ⟨wc.heap.size, 0, none⟩)] wd fun e w' => e = .returned (.int .i64 key) ∧ w' = wd) := key_any _ _ _ _ htab
                    go_wp2_with fail
                    refine HK.out.mono ?_
                    rintro e wd' ⟨rfl, hw⟩
                    have hw' := hw.symm
                    subst hw'
                    clear hw HK
                    go_wp2
                    have hTd := Utf8Tabs_below hT hbwd
                    go_loopw [15] (fun i wr => ∃ j : Nat, j ≤ p ∧ i = .int .i64 j ∧ Below wd.heap.size wd wr) (fun i _ => p - (intOf i).toNat)
                    case atStart => exact ⟨0, by omega, rfl, Below.refl _ _⟩
                    case round =>
                      obtain ⟨j, hj, rfl, hbj⟩ := hrel
                      have hbj' : Below w.heap.size w wr := hbwd.trans (hbj.mono hbwd.size)
                      rcases Nat.lt_or_ge j p with hlt | hge3
                      · have hcj : wr.cell? ⟨b, off + j, none⟩ = some (.string (nm ss j)) := (hbj'.cell (p := ⟨b, off + j, none⟩) hb).trans (hc j hlt)
                        go_wp2_with fail
                        refine (flip_nm ss j wr (hz j)).mono ?_
                        rintro e w1 ⟨rfl, hb1⟩
                        have hb1d : Below wd.heap.size wd w1 := hbj.trans (hb1.mono hbj.size)
                        have hcol := col_nm htab hidx' hTd hb1d hlt (hgood j hlt) (hz j) (by have := hsm j hlt; omega)
                        have HCOL : Hid (Calls Tryf.prog 9 #[.pointer (some ⟨wc.heap.size, 0, none⟩), .string (fl ss j)] w1 fun e w' => e = .returned (.tuple #[.int .i64 j, .nilIface]) ∧ Below w1.heap.size w1 w') := hcol
                        clear hcol
                        go_wp2_with fail
                        refine HCOL.out.mono ?_
                        rintro e w2 ⟨rfl, hb2⟩
                        have hb2d : Below wd.heap.size wd w2 := hb1d.trans (hb2.mono hb1d.size)
                        clear hcj HCOL htab hidx' hTd
                        go_wp2
                        go_roundw
                        case rel => exact ⟨j + 1, by omega, by go_num, hb2d⟩
                        case measure => simp [intOf]; omega
                      · go_wp2
                        go_ret
                        exact ⟨rfl, hbj'⟩
end Go.Proofs.Qxb6608748aFmt
