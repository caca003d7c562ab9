/-
  WALK: the law.
-/
import Derived.Test.Qxb6613464aFmtPlainB
namespace Go.Proofs.Qxb6613464aFmt
open Go.RowKit Go.Extern.Stop Go.Stop Go.Extern

set_option maxHeartbeats 1600000 in
set_option maxRecDepth 100000 in
theorem law_some (F : Interp) (s : ByteArray) (b off c : Nat) (ns : List ByteArray) (w : World) (hF : F.answers w.tape) (hs : s.size ≤ maxLen) (hl : ns.length ≤ maxLen) (hc : ns.length ≤ c) (hp : 0 < ns.length) (hb : b < w.heap.size) (hst : StrsAt w b off ns) :
    Calls Tryf.prog 3 #[.string s, .slice (some ⟨b, off, none⟩) ns.length c] w fun e w' => e = .returned (.bool true) ∧ Below w.heap.size w w' := by
  have HST : Hid (StrsAt w b off ns) := hst
  have HF : Hid (F.answers w.tape) := hF
  have HB : Hid (b < w.heap.size) := hb
  have HN : Names w (some ⟨b, off, none⟩) ns := fun _ => ⟨b, off, rfl, hb, hst⟩
  have HZ : Hid (Calls Tryf.prog 4 #[.string s, .slice (some ⟨b, off, none⟩) ns.length c] w fun e w' => SaysIf (s.size ≤ 1048576 ∧ ns.length ≤ 1048576) e ∧ w' = w) := zzBytes_any s _ c ns w hs hl HN
  have HO : Hid (∀ mx : Int, 0 ≤ mx → mx ≤ 1048576 → ns.length ≤ 1048576 → Calls Tryf.prog 5 #[.slice (some ⟨b, off, none⟩) ns.length c, .int .i64 mx] w fun e w' => SaysIf True e ∧ w' = w) := fun mx h0 h1 h2 => over_any _ c ns mx w h0 h1 h2 HN
  clear hst hF hb HN
  unfold maxLen at hs hl
  go_enter Tryf.func3, Tryf.ntmps3
  go_wp2_with fail
  refine HZ.out.mono ?_
  rintro e w' ⟨⟨q, rfl, hq⟩, hw⟩
  have hw' := hw.symm
  subst hw'
  clear hw HZ
  cases q
  · go_wp2
    go_ret
    exact ⟨rfl, Below.refl _ _⟩
  · obtain ⟨hs1, hl1⟩ := hq rfl
    clear hq
    have hsi : (s.size : Int) ≤ 1048576 := by omega
    go_wp2_with fail
    refine (HO.out _ (by omega) (by omega) hl1).mono ?_
    rintro e w' ⟨⟨q, rfl, -⟩, hw⟩
    have hw' := hw.symm
    subst hw'
    clear hw HO
    cases q
    · have hz : ((ns.length : Int) == 0) = false := by rw [beq_eq_false_iff_ne]; omega
      have hz2 : ¬ (ns.length = 0) := by omega
      have hz3 : ns ≠ [] := by rintro rfl; simp at hp
      go_upto_block 0 with fail
      clear hz hz2 hz3
      go_cut [5] (fun l wx => wx = w ∧ l = .int .i64 (lead ns))
      case first =>
        have hll := lead_le ns
        go_wp2_with fail
        go_loopg [5] ns.length (fun g i wx => wx = w ∧ ∃ k : Nat, k ≤ lead ns ∧ g = ns.length - k ∧ i = .int .i64 k)
        case atStart => exact ⟨rfl, 0, by omega, by omega, rfl⟩
        case round =>
          obtain ⟨hwr, k, hk, hg, rfl⟩ := hrel
          have hwr' := hwr.symm
          subst hwr'
          clear hwr
          have HG : Hid (gk = ns.length - k) := hg
          clear hg
          rcases Nat.lt_or_ge k ns.length with hlt | hge
          · have hck := HST.out k hlt
            obtain ⟨x, hx⟩ : ∃ x, x = ns[k] := ⟨_, rfl⟩
            rw [← hx] at hck
            have HX : Hid (x = ns[k]) := hx
            clear hx
            by_cases e2 : x = par
            · have hj1 : k + 1 ≤ lead ns := by
                rcases Nat.lt_or_ge k (lead ns) with h | h
                · omega
                · have el : lead ns = k := by omega
                  have := lead_at ns (by omega)
                  simp only [el] at this
                  exact (this (by rw [← HX.out, e2])).elim
              unfold par at e2
              subst e2
              go_wp2
              go_roundg (ns.length - (k + 1))
              case rel => exact ⟨rfl, k + 1, hj1, rfl, by go_num⟩
              case measure => have := HG.out; omega
            · have e2' : (x.toList == [112, 97, 114, 101, 110, 116]) = false := list_ne e2
              have hje : Hid (k = lead ns) := by
                show k = lead ns
                rcases Nat.lt_or_ge k (lead ns) with h | h
                · exact (e2 (by rw [HX.out]; exact lead_before ns k hlt h)).elim
                · omega
              clear e2
              go_wp2
              go_meet
              exact ⟨rfl, by rw [hje.out]⟩
          · have hje : Hid (k = lead ns) := by
              show k = lead ns
              omega
            go_wp2
            go_meet
            exact ⟨rfl, by rw [hje.out]⟩
      case rest =>
        obtain ⟨hwc, rfl⟩ := hcut
        have hwc' := hwc.symm
        subst hwc'
        clear hwc
        have hll := lead_le ns
        obtain ⟨L, hL⟩ : ∃ L, L = lead ns := ⟨_, rfl⟩
        rw [← hL] at hll ⊢
        have HL : Hid (L = lead ns) := hL
        clear hL
        go_upto_block 2 with fail
        go_cut [6, 7] (fun q _ wx => wx = w ∧ ∃ g : Bool, q = .bool g ∧ Hid (g = true ↔ clean (ns.drop L)))
        case first =>
          go_wp2_with fail
          go_loopg [6, 7] (ns.length - L) (fun g q i wx => wx = w ∧ q = .bool true ∧ ∃ k : Nat, L ≤ k ∧ k ≤ ns.length ∧ g = ns.length - k ∧ i = .int .i64 k ∧ Hid (∀ j (h : j < ns.length), L ≤ j → j < k → ns[j] ≠ par))
          case atStart => exact ⟨rfl, rfl, L, by omega, by omega, rfl, rfl, fun j _ h1 h2 => by omega⟩
          case round =>
            obtain ⟨hwr, rfl, k, hLk, hk, hg, rfl, hcl⟩ := hrel
            have hwr' := hwr.symm
            subst hwr'
            clear hwr
            have HG : Hid (gk = ns.length - k) := hg
            clear hg
            rcases Nat.lt_or_ge k ns.length with hlt | hge
            · have hck := HST.out k hlt
              obtain ⟨x, hx⟩ : ∃ x, x = ns[k] := ⟨_, rfl⟩
              rw [← hx] at hck
              have HX : Hid (x = ns[k]) := hx
              clear hx
              by_cases e2 : x = par
              · have HNC : Hid (¬ clean (ns.drop L)) := fun h => clean_at h hlt hLk (by rw [← HX.out, e2])
                unfold par at e2
                subst e2
                go_wp2
                go_meet
                exact ⟨rfl, false, rfl, ⟨fun h => (Bool.false_ne_true h).elim, fun h => (HNC.out h).elim⟩⟩
              · have e2' : (x.toList == [112, 97, 114, 101, 110, 116]) = false := list_ne e2
                have HCL' : Hid (∀ j (h : j < ns.length), L ≤ j → j < k + 1 → ns[j] ≠ par) := fun j h h1 h2 => by
                  rcases Nat.lt_or_ge j k with h3 | h3
                  · exact hcl.out j h h1 h3
                  · have ej : j = k := by omega
                    subst ej
                    rw [← HX.out]; exact e2
                clear e2
                go_wp2
                go_roundg (ns.length - (k + 1))
                case rel => exact ⟨rfl, rfl, k + 1, by omega, by omega, rfl, by go_num, HCL'⟩
                case measure => have := HG.out; omega
            · have HC : Hid (clean (ns.drop L)) := clean_drop (fun j h h1 => hcl.out j h h1 (by omega))
              go_wp2
              go_meet
              exact ⟨rfl, true, rfl, ⟨fun _ => HC.out, fun _ => rfl⟩⟩
        case rest =>
          obtain ⟨hwc, g, rfl, hgc⟩ := hcut
          have hwc' := hwc.symm
          subst hwc'
          clear hwc
          have HP1 : Hid (∀ wA, Below w.heap.size w wA → Calls Tryf.prog 8 #[.slice (some ⟨b, off, none⟩) ns.length c, .bool false] wA fun e w' => SaysPath ns w' e ∧ Below wA.heap.size wA w') := fun wA h =>
            path_any b off c ns false wA hl1 hp (Nat.lt_of_lt_of_le HB.out h.size) (HST.out.below HB.out h)
          have HP2 : Hid (∀ wA, Below w.heap.size w wA → Calls Tryf.prog 8 #[.slice (some ⟨b, off, none⟩) ns.length c, .bool true] wA fun e w' => SaysPath (par :: ns) w' e ∧ Below wA.heap.size wA w') := fun wA h =>
            path_any b off c ns true wA hl1 hp (Nat.lt_of_lt_of_le HB.out h.size) (HST.out.below HB.out h)
          have HQ1 : Hid (∀ C T wA wB, Below w.heap.size w wA → NoErr C wA → PathAt wB T ns → Below wA.heap.size wA wB → Calls Tryf.prog 7 #[.pointer (some ⟨C, 0, none⟩), .string s, .pointer (some ⟨T, 0, none⟩)] wB fun e w' => SaysLen C ns w' e ∧ Below C wB w') := fun C T wA wB h hn hpa hb =>
            zzLen_any F C T s ns wB (below_tape hb (below_tape h HF.out)) (hn.grow hb) (by omega) hp hpa
          have HQ2 : Hid (∀ C T wA wB, Below w.heap.size w wA → NoErr C wA → PathAt wB T (par :: ns) → Below wA.heap.size wA wB → Calls Tryf.prog 7 #[.pointer (some ⟨C, 0, none⟩), .string s, .pointer (some ⟨T, 0, none⟩)] wB fun e w' => SaysLen C (par :: ns) w' e ∧ Below C wB w') := fun C T wA wB h hn hpa hb =>
            zzLen_any F C T s (par :: ns) wB (below_tape hb (below_tape h HF.out)) (hn.grow hb) (by rw [List.length_cons]; omega) (by simp) hpa
          have HT2 : Hid (tgt (par :: ns) = (false, L + 1, ns.drop L)) := by
            show tgt (par :: ns) = (false, L + 1, ns.drop L)
            rw [HL.out]; exact tgt_behind ns
          have HCA : Hid (clean (tgt ns).2.2 ↔ clean (ns.drop L)) := by
            show clean (tgt ns).2.2 ↔ clean (ns.drop L)
            rw [HL.out]; exact clean_alone hp
          go_wp2_with fail
          refine (newComp2 w).mono ?_
          rintro e w1 ⟨rfl, hno1, hb1⟩
          have HNO1 : Hid (NoErr w.heap.size w1) := hno1
          have HB1 : Hid (Below w.heap.size w w1) := hb1
          clear hno1 hb1
          go_wp2_with fail
          refine (HP1.out _ HB1.out).mono ?_
          rintro e w2 ⟨⟨T1, rfl, hpa1⟩, hb2⟩
          have HPA1 : Hid (PathAt w2 T1 ns) := hpa1
          have HB2 : Hid (Below w1.heap.size w1 w2) := hb2
          clear hpa1 hb2
          go_wp2_with fail
          refine (HQ1.out _ _ _ _ HB1.out HNO1.out HPA1.out HB2.out).mono ?_
          rintro e w3 ⟨hsay1, hb3⟩
          have HB3 : Hid (Below w.heap.size w w3) := (below_of HB1.out HB2.out).trans hb3
          have HC1 : Hid (w.heap.size < w3.heap.size) := Nat.lt_of_lt_of_le HNO1.out.1 (Nat.le_trans HB2.out.size hb3.size)
          clear hb3 HNO1 HPA1 HB1 HB2 HP1 HQ1
          obtain ⟨⟨sys1, up1, ps1⟩, htg⟩ : ∃ t, tgt ns = t := ⟨_, rfl⟩
          have HTG : Hid (tgt ns = (sys1, up1, ps1)) := htg
          unfold SaysLen at hsay1
          rw [htg] at hsay1 HCA
          dsimp only at hsay1
          clear htg
          cases g
          · have HNCL : Hid (¬ clean (ns.drop L)) := fun h => by cases hgc.out.2 h
            rcases hsay1 with ⟨hcl, -, -⟩ | ⟨-, rfl, hone1⟩
            · exact (HNCL.out (HCA.out.1 hcl)).elim
            have HONE1 : Hid (OneErr w.heap.size w3) := hone1
            clear hone1 hgc
            go_wp2_with fail
            have HBX1 : Hid (BoxAt (w3.alloc (.cells #[.bool false, .int .i64 0, .slice none 0 0] 28)) w3.heap.size false 0 (.slice none 0 0)) := boxAt_new ..
            have HB4 : Hid (Below w3.heap.size w3 (w3.alloc (.cells #[.bool false, .int .i64 0, .slice none 0 0] 28))) := (Below.refl _ _).alloc (Nat.le_refl _) _
            generalize w3.alloc (.cells #[.bool false, .int .i64 0, .slice none 0 0] 28) = w4 at HBX1 HB4 ⊢
            refine (newComp2 w4).mono ?_
            rintro e w5 ⟨rfl, hno2, hb5⟩
            have HNO2 : Hid (NoErr w4.heap.size w5) := hno2
            have HB5 : Hid (Below w4.heap.size w4 w5) := hb5
            have HB05 : Hid (Below w.heap.size w w5) := below_of (below_of HB3.out HB4.out) hb5
            clear hno2 hb5
            go_wp2_with fail
            refine (HP2.out _ HB05.out).mono ?_
            rintro e w5p ⟨⟨T2, rfl, hpa2⟩, hb5p⟩
            have HPA2 : Hid (PathAt w5p T2 (par :: ns)) := hpa2
            have HB5P : Hid (Below w5.heap.size w5 w5p) := hb5p
            clear hpa2 hb5p
            go_wp2_with fail
            refine (HQ2.out _ _ _ _ HB05.out HNO2.out HPA2.out HB5P.out).mono ?_
            rintro e w6 ⟨hsay2, hb6⟩
            have HB46 : Hid (Below w4.heap.size w4 w6) := (below_of HB5.out HB5P.out).trans hb6
            have HC2 : Hid (w4.heap.size < w6.heap.size) := Nat.lt_of_lt_of_le HNO2.out.1 (Nat.le_trans HB5P.out.size hb6.size)
            clear hb6 HNO2 HPA2 HB5 HB5P HB05 HP2 HQ2
            unfold SaysLen at hsay2
            rw [HT2.out] at hsay2
            dsimp only at hsay2
            rcases hsay2 with ⟨hcl, -, -⟩ | ⟨-, rfl, hone2⟩
            · exact (HNCL.out hcl).elim
            have HONE2 : Hid (OneErr w4.heap.size w6) := hone2
            clear hone2
            go_wp2_with fail
            have HBX2 : Hid (BoxAt (w6.alloc (.cells #[.bool false, .int .i64 0, .slice none 0 0] 28)) w6.heap.size false 0 (.slice none 0 0)) := boxAt_new ..
            have HB7 : Hid (Below w6.heap.size w6 (w6.alloc (.cells #[.bool false, .int .i64 0, .slice none 0 0] 28))) := (Below.refl _ _).alloc (Nat.le_refl _) _
            generalize w6.alloc (.cells #[.bool false, .int .i64 0, .slice none 0 0] 28) = w7 at HBX2 HB7 ⊢
            have HB47 : Hid (Below w4.heap.size w4 w7) := below_of HB46.out HB7.out
            have HB37 : Hid (Below w3.heap.size w3 w7) := below_of HB4.out HB47.out
            have HB07 : Hid (Below w.heap.size w w7) := below_of HB3.out HB37.out
            obtain ⟨x1, c1, he1⟩ := HONE1.out.grow HC1.out HB37.out
            obtain ⟨x2, c2, he2⟩ := HONE2.out.grow HC2.out HB7.out
            obtain ⟨-, a0, a1, a2⟩ := HBX1.out.grow HB47.out
            obtain ⟨-, b0, b1, b2⟩ := HBX2.out
            have HZT : Hid (∀ wA, Calls Tryf.prog 10 #[.agg #[.bool false, .int .i64 0, .slice none 0 0]] wA fun e w' => e = .returned (.bool true) ∧ Below wA.heap.size wA w') := zero_yes
            refine (errs_at _ _ _ he1).mono ?_
            rintro e w' ⟨rfl, hw⟩
            have hw' := hw.symm
            subst hw'
            clear hw
            go_wp2_with fail
            refine (errs_at _ _ _ he2).mono ?_
            rintro e w' ⟨rfl, hw⟩
            have hw' := hw.symm
            subst hw'
            clear hw
            go_wp2_with fail
            refine (HZT.out _).mono ?_
            rintro e w8 ⟨rfl, hb8⟩
            obtain ⟨-, d0, d1, d2⟩ := HBX2.out.grow hb8
            have HB08 : Hid (Below w.heap.size w w8) := below_of HB07.out hb8
            clear a0 a1 a2 b0 b1 b2 hb8
            go_wp2_with fail
            refine (HZT.out _).mono ?_
            rintro e w9 ⟨rfl, hb9⟩
            go_wp2
            go_ret
            exact ⟨rfl, below_of HB08.out hb9⟩
          · have HCL : Hid (clean (ns.drop L)) := hgc.out.1 rfl
            rcases hsay1 with ⟨-, ⟨v1, rfl, hpv1⟩, hno1⟩ | ⟨hncl, -, -⟩
            rotate_left
            · exact (hncl (HCA.out.2 HCL.out)).elim
            obtain ⟨pa1, pn1, pc1, hv⟩ := hpv1.form
            subst hv
            have HPV1 : Hid (PathVal w3 (.slice pa1 pn1 pc1) ps1) := hpv1
            have HNO1 : Hid (NoErr w.heap.size w3) := hno1
            clear hpv1 hno1 hgc
            go_wp2_with fail
            have HBX1 : Hid (BoxAt (w3.alloc (.cells #[.bool sys1, .int .i64 up1, .slice pa1 pn1 pc1] 28)) w3.heap.size sys1 up1 (.slice pa1 pn1 pc1)) := boxAt_new ..
            have HB4 : Hid (Below w3.heap.size w3 (w3.alloc (.cells #[.bool sys1, .int .i64 up1, .slice pa1 pn1 pc1] 28))) := (Below.refl _ _).alloc (Nat.le_refl _) _
            generalize w3.alloc (.cells #[.bool sys1, .int .i64 up1, .slice pa1 pn1 pc1] 28) = w4 at HBX1 HB4 ⊢
            refine (newComp2 w4).mono ?_
            rintro e w5 ⟨rfl, hno2, hb5⟩
            have HNO2 : Hid (NoErr w4.heap.size w5) := hno2
            have HB5 : Hid (Below w4.heap.size w4 w5) := hb5
            have HB05 : Hid (Below w.heap.size w w5) := below_of (below_of HB3.out HB4.out) hb5
            clear hno2 hb5
            go_wp2_with fail
            refine (HP2.out _ HB05.out).mono ?_
            rintro e w5p ⟨⟨T2, rfl, hpa2⟩, hb5p⟩
            have HPA2 : Hid (PathAt w5p T2 (par :: ns)) := hpa2
            have HB5P : Hid (Below w5.heap.size w5 w5p) := hb5p
            clear hpa2 hb5p
            go_wp2_with fail
            refine (HQ2.out _ _ _ _ HB05.out HNO2.out HPA2.out HB5P.out).mono ?_
            rintro e w6 ⟨hsay2, hb6⟩
            have HB46 : Hid (Below w4.heap.size w4 w6) := (below_of HB5.out HB5P.out).trans hb6
            clear hb6 HNO2 HPA2 HB5 HB5P HB05 HP2 HQ2
            unfold SaysLen at hsay2
            rw [HT2.out] at hsay2
            dsimp only at hsay2
            rcases hsay2 with ⟨-, ⟨v2, rfl, hpv2⟩, hno2⟩ | ⟨hncl, -, -⟩
            rotate_left
            · exact (hncl HCL.out).elim
            obtain ⟨pa2, pn2, pc2, hv⟩ := hpv2.form
            subst hv
            have hcast : ((L + 1 : Nat) : Int) = (L : Int) + 1 := by omega
            rw [hcast]
            clear hcast
            go_wp2_with fail
            have HBX2 : Hid (BoxAt (w6.alloc (.cells #[.bool false, .int .i64 ((L : Int) + 1), .slice pa2 pn2 pc2] 28)) w6.heap.size false ((L : Int) + 1) (.slice pa2 pn2 pc2)) := boxAt_new ..
            have HB7 : Hid (Below w6.heap.size w6 (w6.alloc (.cells #[.bool false, .int .i64 ((L : Int) + 1), .slice pa2 pn2 pc2] 28))) := (Below.refl _ _).alloc (Nat.le_refl _) _
            generalize w6.alloc (.cells #[.bool false, .int .i64 ((L : Int) + 1), .slice pa2 pn2 pc2] 28) = w7 at HBX2 HB7 ⊢
            have HB47 : Hid (Below w4.heap.size w4 w7) := below_of HB46.out HB7.out
            have HB37 : Hid (Below w3.heap.size w3 w7) := below_of HB4.out HB47.out
            have HB07 : Hid (Below w.heap.size w w7) := below_of HB3.out HB37.out
            have he1 := (HNO1.out.grow HB37.out).2.1
            have he2 := (hno2.grow HB7.out).2.1
            have HPV1' : Hid (PathVal w7 (.slice pa1 pn1 pc1) ps1) := HPV1.out.grow HB37.out
            have HPV2' : Hid (PathVal w7 (.slice pa2 pn2 pc2) (ns.drop L)) := hpv2.grow HB7.out
            have HST7 : Hid (StrsAt w7 b off ns) := HST.out.below HB.out HB07.out
            obtain ⟨-, a0, a1, a2⟩ := HBX1.out.grow HB47.out
            obtain ⟨-, b0, b1, b2⟩ := HBX2.out
            clear hpv2 hno2 HPV1 HBX1 HBX2 HNO1 HB7 HB47 HB37 HB46 HB4 HST
            generalize w6.heap.size = B2 at b0 b1 b2 ⊢
            generalize w3.heap.size = B1 at a0 a1 a2 ⊢
            generalize w4.heap.size = C2 at he2 ⊢
            refine (errs_at _ _ _ he1).mono ?_
            rintro e w' ⟨rfl, hw⟩
            have hw' := hw.symm
            subst hw'
            clear hw
            go_wp2_with fail
            refine (errs_at _ _ _ he2).mono ?_
            rintro e w' ⟨rfl, hw⟩
            have hw' := hw.symm
            subst hw'
            clear hw he1 he2
            go_upto_region 28 with fail
            go_cut [129] (fun q wx => q = .bool false ∧ ∃ n, wx = w7.drewN n)
            case first =>
              rcases Nat.lt_or_ge L ns.length with hlt | hge
              · have HS : Hid (∀ k, Calls Tryf.prog 11 #[.slice pa2 pn2 pc2, .slice (some ⟨b, off + L, none⟩) (ns.length - L) (c - L)] (w7.drewN k) fun e w' => e = .returned (.bool true) ∧ ∃ q, w' = (w7.drewN k).drewN q) := fun k =>
                  same_any _ (ns.drop L) _ _ _ _ (by rw [List.length_drop]; omega) HPV2'.out (by rw [List.length_drop]) (fun _ => ⟨b, off + L, rfl, HST7.out.drop L⟩)
                have hli : (L : Int) < (ns.length : Int) := by omega
                go_quiet ((go_at_call 11; refine Calls.quiet_of (HS.out _)))
                go_wp2
                go_meet
                exact ⟨rfl, _, rfl⟩
              · have HS : Hid (∀ a cc k, Calls Tryf.prog 11 #[.slice pa2 pn2 pc2, .slice a 0 cc] (w7.drewN k) fun e w' => e = .returned (.bool true) ∧ ∃ q, w' = (w7.drewN k).drewN q) := fun a cc k =>
                  same_any _ (ns.drop L) _ _ _ _ (by rw [List.length_drop]; omega) HPV2'.out (by rw [List.length_drop]; omega) (fun h => by rw [List.length_drop] at h; omega)
                have hli : (L : Int) ≤ (ns.length : Int) := by omega
                rcases Nat.lt_or_ge L c with hcl | hcg
                · go_quiet ((go_at_call 11; refine Calls.quiet_of (HS.out _ _ _)))
                  go_wp2
                  go_meet
                  exact ⟨rfl, _, rfl⟩
                · have hce : L = c := by omega
                  go_quiet ((go_at_call 11; refine Calls.quiet_of (HS.out _ _ _)))
                  go_wp2
                  go_meet
                  exact ⟨rfl, _, rfl⟩
            case rest =>
              obtain ⟨rfl, n8, hwc⟩ := hcut
              have HB8 : Hid (Below w.heap.size w wc) := by
                show Below w.heap.size w wc
                rw [hwc]; exact bdN HB07.out n8
              have HPA : Hid (∀ k, PathVal (wc.drewN k) (.slice pa1 pn1 pc1) ps1) := by
                rw [hwc]; exact fun k => HPV1'.out
              have HPB : Hid (∀ k, PathVal (wc.drewN k) (.slice pa2 pn2 pc2) (ns.drop L)) := by
                rw [hwc]; exact fun k => HPV2'.out
              have HST8 : Hid (StrsAt wc b off ns) := by
                rw [hwc]; exact HST7.out
              have hcell : ∀ B k, wc.cell? ⟨B, k, none⟩ = w7.cell? ⟨B, k, none⟩ := by
                rw [hwc]; exact fun _ _ => rfl
              rw [← hcell] at a0 a1 a2 b0 b1 b2
              clear hcell hwc HPV1' HPV2' HST7
              by_cases hL0 : L = 0
              · have HPB0 : Hid (∀ k, PathVal (wc.drewN k) (.slice pa2 pn2 pc2) ns) := by
                  have h := HPB.out
                  rw [hL0, List.drop_zero] at h
                  exact h
                have hLi : (L : Int) = 0 := by omega
                rw [hLi] at b1 ⊢
                rw [Int.zero_add] at b1
                have HPAR : Hid (ns[0] ≠ par) := lead_none hp (by rw [← HL.out, hL0])
                have hc0 := HST8.out 0 hp
                rw [Nat.add_zero] at hc0
                obtain ⟨x, hx⟩ : ∃ x, x = ns[0] := ⟨_, rfl⟩
                rw [← hx] at hc0
                have HX : Hid (x = ns[0]) := hx
                clear hx HPB hLi hL0
                by_cases hsy : 1 < ns.length ∧ x = sysc
                · obtain ⟨h1, e2⟩ := hsy
                  have htt : (sys1, up1, ps1) = (true, 0, ns.drop 1) := by
                    rw [← HTG.out]; exact (tgt_sys hp h1 (by rw [← HX.out, e2])).symm
                  injection htt with t1 t2
                  injection t2 with t2 t3
                  have hu : (up1 : Int) = 0 := by omega
                  rw [hu] at a1
                  subst t1 t3
                  clear hu t2
                  unfold sysc at e2
                  subst e2
                  rcases HPB0.out 0 with ⟨h, _⟩ | ⟨g, cap, hv, _, hcap, hg, hst⟩
                  · rw [h] at hp; simp at hp
                  injection hv with e1 e2 e3
                  subst e1 e2 e3
                  have HS : Hid (∀ k, Calls Tryf.prog 11 #[.slice pa1 pn1 pc1, .slice (some ⟨g, 1, none⟩) (ns.length - 1) (pc2 - 1)] (wc.drewN k) fun e w' => e = .returned (.bool true) ∧ ∃ q, w' = (wc.drewN k).drewN q) := fun k =>
                    same_any _ (ns.drop 1) _ _ _ _ (by rw [List.length_drop]; omega) (HPA.out k) (by rw [List.length_drop]) (fun _ => ⟨g, 1, rfl, by have := hst.drop 1; rwa [Nat.zero_add] at this⟩)
                  have h1i : (1 : Int) < (ns.length : Int) := by omega
                  have h1c : 1 < pc2 := by omega
                  clear hst hg
                  go_upto_region 33 with fail
                  go_quiet ((go_at_call 11; refine Calls.quiet_of (HS.out _)))
                  go_wp2
                  go_ret
                  exact ⟨rfl, bdN HB8.out _⟩
                · have htt : (sys1, up1, ps1) = (false, 1, ns) := by
                    rw [← HTG.out]
                    refine (tgt_else hp ?_ HPAR.out).symm
                    by_cases h1 : ns.length = 1
                    · exact .inl h1
                    · exact .inr (fun e => hsy ⟨by omega, by rw [HX.out, e]⟩)
                  injection htt with t1 t2
                  injection t2 with t2 t3
                  have hu : (up1 : Int) = 1 := by omega
                  rw [hu] at a1
                  subst t1 t3
                  clear hu t2
                  have HS : Hid (Calls Tryf.prog 11 #[.slice pa1 pn1 pc1, .slice pa2 pn2 pc2] wc fun e w' => e = .returned (.bool true) ∧ ∃ q, w' = wc.drewN q) :=
                    same_any _ ps1 _ _ _ _ hl1 (HPA.out 0) (HPB0.out 0).strs.1 (HPB0.out 0).strs.2
                  rcases Int.lt_or_le 1 (ps1.length : Int) with h1 | h1
                  · have e2' : (x.toList == [115, 121, 115, 99, 97, 108, 108]) = false := list_ne (fun e => hsy ⟨by omega, e⟩)
                    clear hsy
                    go_wp2_with fail
                    refine HS.out.mono ?_
                    rintro e w9 ⟨rfl, q, rfl⟩
                    go_wp2
                    go_ret
                    exact ⟨rfl, bdN HB8.out q⟩
                  · clear hsy
                    go_wp2_with fail
                    refine HS.out.mono ?_
                    rintro e w9 ⟨rfl, q, rfl⟩
                    go_wp2
                    go_ret
                    exact ⟨rfl, bdN HB8.out q⟩
              · have hLp : (0 : Int) < (L : Int) := by omega
                have htt : (sys1, up1, ps1) = (false, L, ns.drop L) := by
                  rw [← HTG.out, HL.out]; exact tgt_up (by rw [← HL.out]; omega)
                injection htt with t1 t2
                injection t2 with t2 t3
                have hu : (up1 : Int) = L := by omega
                rw [hu] at a1
                subst t1 t3
                clear hu t2 hL0
                have HS : Hid (Calls Tryf.prog 11 #[.slice pa1 pn1 pc1, .slice pa2 pn2 pc2] wc fun e w' => e = .returned (.bool true) ∧ ∃ q, w' = wc.drewN q) :=
                  same_any _ (ns.drop L) _ _ _ _ (by rw [List.length_drop]; omega) (HPA.out 0) (HPB.out 0).strs.1 (HPB.out 0).strs.2
                go_wp2_with fail
                refine HS.out.mono ?_
                rintro e w9 ⟨rfl, q, rfl⟩
                go_wp2
                go_ret
                exact ⟨rfl, bdN HB8.out q⟩
    · go_wp2
      go_ret
      exact ⟨rfl, Below.refl _ _⟩
end Go.Proofs.Qxb6613464aFmt
