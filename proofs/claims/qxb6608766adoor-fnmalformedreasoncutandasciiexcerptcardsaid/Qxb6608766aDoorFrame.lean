/-
  WHAT BOTH LAWS' FRAMES SHARE: from the listed variables to what the walks ask; a slice of bytes that came in.
-/
import Derived.Test.Qxb6608766aDoorTie
import Derived.Test.Qxb6608766aDoorCards
import Derived.Test.Qxb6608766aDoorLawC
import Derived.ProofKit
import Derived.OpenShut
import Derived.OpenVars
import Derived.ShutString
import Derived.ChangeOld
import Derived.Lay
import Derived.PinnedBridge
import Derived.Lib.LaidU8T
import Derived.LaidLaws
import Derived.SevenTiedAt
namespace Go.Proofs.Qxb6608766aDoor
open Go.ChangeShapes Go.WideShapes Go.ChangeAt Go.RowKit
open Go.ChangeMaps (open_string shut_string)
set_option linter.unusedVariables false

theorem own : ownKnob Tryd.prog.godebug = none := by kernel_rfl
theorem laidOut : laidOutB Tryd.prog = true := by kernel_rfl
theorem u8extra : U8Extra Tryd.prog Tryd.lays177_ren := ⟨by kernel_rfl, by kernel_rfl, by kernel_rfl, by kernel_rfl, by kernel_rfl, by kernel_rfl, by kernel_rfl⟩
theorem printExtra : PrintExtra Tryd.prog Tryd.lays177_ren := ⟨by kernel_rfl, by kernel_rfl, by kernel_rfl, by kernel_rfl, by kernel_rfl, by kernel_rfl, by kernel_rfl, by kernel_rfl, by kernel_rfl, by kernel_rfl⟩
theorem accept_eq : (Rows.laid_unicode_utf8_acceptRanges : DataW Unit) = Lib.acceptData := by kernel_rfl
theorem first_eq : Rows.laid_unicode_utf8_first = Lib.firstData := Pinned.utf8First_eq
theorem p16_eq : Rows.laid_strconv_isPrint16 = Lib.sliceData .u16 Lib.goPrintTabs.p16 := Pinned.isPrint16_eq
theorem n16_eq : Rows.laid_strconv_isNotPrint16 = Lib.sliceData .u16 Lib.goPrintTabs.n16 := Pinned.isNotPrint16_eq
theorem p32_eq : Rows.laid_strconv_isPrint32 = Lib.sliceData .u32 Lib.goPrintTabs.p32 := Pinned.isPrint32_eq
theorem n32_eq : Rows.laid_strconv_isNotPrint32 = Lib.sliceData .u16 Lib.goPrintTabs.n32 := Pinned.isNotPrint32_eq
theorem eofType : (Tryd.prog.globals[0]?).map (·.type) = some 38 := by kernel_rfl

theorem tabs_of {W : World} (hL : laidMet Tryd.prog Rows.fnMalformedReadsOnlyTheNextBytesRow.laid W) : Tabs Lib.goPrintTabs W := by
  have h4 := Lib.laidMet.reads hL (.head _)
  have n16 := Lib.laidMet.reads hL (.tail _ (.tail _ (.tail _ (.tail _ (.head _)))))
  have n32 := Lib.laidMet.reads hL (.tail _ (.tail _ (.tail _ (.tail _ (.tail _ (.head _))))))
  have p16 := Lib.laidMet.reads hL (.tail _ (.tail _ (.tail _ (.tail _ (.tail _ (.tail _ (.head _)))))))
  have p32 := Lib.laidMet.reads hL (.tail _ (.tail _ (.tail _ (.tail _ (.tail _ (.tail _ (.tail _ (.head _))))))))
  have h3 := Lib.laidMet.reads hL (.tail _ (.tail _ (.tail _ (.tail _ (.tail _ (.tail _ (.tail _ (.tail _ (.head _)))))))))
  rw [accept_eq] at h4
  rw [first_eq] at h3
  rw [n16_eq] at n16
  rw [n32_eq] at n32
  rw [p16_eq] at p16
  rw [p32_eq] at p32
  exact ⟨printTabs_of_reads { Tryd.lays177 with } printExtra p16 n16 p32 n32, utf8Tabs_of_readsT { Tryd.lays177 with } u8extra h3 h4⟩
theorem eof_of {W : World} (hL : laidMet Tryd.prog Rows.fnMalformedReadsOnlyTheNextBytesRow.laid W) : ∃ u v, W.cell? ⟨0, 0, none⟩ = some (.iface u v) := by
  obtain ⟨g, t, cs, fuel, p, hg, ht, hv, hd⟩ := Lib.laidMet.reads hL (.tail _ (.head _))
  obtain rfl := Option.some.inj ((show Tryd.prog.globalNamed _ = some 0 by kernel_rfl).symm.trans hg)
  obtain rfl := Option.some.inj (eofType.symm.trans ht)
  obtain ⟨fuel', u, v, hcs, _⟩ := iface_of_trod Tryd.underlying38 hd
  refine ⟨u, v, ?_⟩
  rw [World.var?_cell hg hv 0, ← Array.getElem?_toList, hcs]
  rfl

/-- A slice of bytes that came in, read: it leads to the bytes of some list. -/
theorem row_of {H : Type} {enc : TypeId × Value → H} {W : World} {a : Option Addr} {len cap : Nat} {d : DataW H} {ps : List MemPlace}
    (h : DataW.Trod enc Tryd.prog W 0 (fun _ => true) true 22 (.slice a len cap) d ps) : ∃ t : List UInt8, t.length = len ∧ len ≤ maxLen ∧ Row W a t := by
  obtain ⟨fuel, hf⟩ := h
  rcases open_ints Tryd.underlying22 Tryd.underlying5 (by kernel_rfl) hf with ⟨hcs, _⟩ | ⟨x, l, c, zs, hcs, _, hl, hm, hz, _, hcell, hwz⟩
  · simp [Value.cells] at hcs
    obtain ⟨rfl, rfl, rfl⟩ := hcs
    exact ⟨[], rfl, Nat.zero_le _, fun hp => by simp at hp⟩
  · simp [Value.cells] at hcs
    obtain ⟨rfl, rfl, rfl⟩ := hcs
    have hzl : zs.length = cap := by simpa using hz
    refine ⟨(zs.take len).map fun z => UInt8.ofNat z.toNat, by rw [List.length_map, List.length_take]; omega, by omega, fun hp => ?_⟩
    rw [List.length_map, List.length_take] at hp
    obtain ⟨b, off, spot⟩ := x
    have hc0 := hcell 0 (by omega)
    have hspot : spot = none := by simpa [Addr.add] using World.cell?_spot hc0
    subst hspot
    refine ⟨b, off, rfl, ?_, fun j hj => ?_⟩
    · have := World.block_lt_of_cell? W _ hc0
      rw [add_at] at this
      exact this
    · rw [List.length_map, List.length_take] at hj
      have hcj := hcell j (by omega)
      rw [add_at] at hcj
      rw [hcj, List.getElem_map, List.getElem_take]
      have hzj : zs.getD j 0 = zs[j]'(by omega) := by rw [List.getD, List.getElem?_eq_getElem (by omega)]; rfl
      have hw := hwz (zs[j]'(by omega)) (List.getElem_mem _)
      have hb : 0 ≤ zs[j]'(by omega) ∧ zs[j]'(by omega) ≤ 255 := by simpa [Lit.wf, IntKind.min, IntKind.max, IntKind.signed, IntKind.bits] using hw
      rw [hzj]
      congr 2
      rw [UInt8.toNat_ofNat']
      omega
end Go.Proofs.Qxb6608766aDoor
