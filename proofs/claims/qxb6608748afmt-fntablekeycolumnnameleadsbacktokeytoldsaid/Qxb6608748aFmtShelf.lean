/-
  DERIVED: THE SHELF's CONTRACTS AT THIS DUMP, IN PLAIN WORDS (tools/lay-plain.mjs out of 'TryfShelf.lean', which tools/lay-shelf.mjs wrote): THE SAME DECLARATIONS UNDER THE SAME NAMES: 'import', 'namespace', 'open', 'def', 'theorem' AND NOTHING ELSE: no command of the shelf's: FOR A HAND-IN. Each laying: the table of numbers ('.._ren') and one theorem, a field a fact of the dump's own or the kernel's comparison; each contract: ONE APPLICATION.
-/
import Derived.Shelf.Strings.MapAny
import Derived.Shelf.Strings.MapGrows
import Derived.Test.Qxb6608748aFmtProg
namespace Go.Proofs
open Go.Shelf
def Tryf.lays270_ren : Go.Shelf.Ren := ⟨fun | 270 => 22 | n => n, fun | 70 => 69 | 3 => 3 | 0 => 0 | 72 => 71 | 37 => 39 | 5 => 5 | n => n, fun | n => n⟩
theorem Tryf.lays270 : Go.Proofs.Lays.n270 Tryf.prog Tryf.lays270_ren := {
  mixed := by kernel_rfl
  f270 := Tryf.func22.trans (congrArg some (by kernel_rfl))
  t0 := Tryf.underlying0
  a0 := Tryf.isAgg0
  z0 := Tryf.sizeOf0
  v0 := Tryf.zeroValue0
  t3 := Tryf.underlying3
  a3 := Tryf.isAgg3
  z3 := Tryf.sizeOf3
  v3 := Tryf.zeroValue3
  t37 := Tryf.underlying39
  a37 := Tryf.isAgg39
  z37 := Tryf.sizeOf39
  v37 := Tryf.zeroValue39
  t70 := Tryf.underlying69
  a70 := Tryf.isAgg69
  z70 := Tryf.sizeOf69
  v70 := Tryf.zeroValue69
  t72 := Tryf.underlying71
  a72 := Tryf.isAgg71
  z72 := Tryf.sizeOf71
  v72 := Tryf.zeroValue71 }
open Go.RowKit Go.Lib in
/-- (*strings.Builder).Cap: "Cap returns the capacity of the builder's underlying byte slice." (LAID: no walk: one application.) -/
theorem Tryf.Builder_Cap_cell (b : Nat) (p : Option Addr) (n cap : Nat) (w : World) (c1 : w.cell? ⟨b, 1, none⟩ = some (.slice p n cap)) :
    Calls Tryf.prog 22 #[.pointer (some ⟨b, 0, none⟩)] w fun e w' => e = .returned (.int .i64 cap) ∧ w' = w := Any.Builder_Cap_cell Tryf.lays270 b p n cap w c1
def Tryf.lays230_ren : Go.Shelf.Ren := ⟨fun | 230 => 13 | 197 => 17 | 118 => 18 | 165 => 19 | 166 => 20 | 168 => 21 | 270 => 22 | 167 => 23 | 169 => 24 | 260 => 25 | 240 => 26 | 241 => 27 | 242 => 28 | 276 => 29 | 277 => 30 | 278 => 31 | n => n, fun | 107 => 65 | 9 => 9 | 72 => 71 | 0 => 0 | 4 => 4 | 3 => 3 | 21 => 21 | 105 => 72 | 76 => 37 | 5 => 5 | 75 => 36 | 70 => 69 | 20 => 20 | 37 => 39 | 127 => 83 | 119 => 84 | 46 => 85 | 139 => 88 | 138 => 87 | 164 => 49 | 51 => 44 | 80 => 78 | n => n, fun | 3 => 1 | 4 => 2 | n => n⟩
theorem Tryf.lays230 : Go.Proofs.Lays.n230 Tryf.prog Tryf.lays230_ren := {
  mixed := by kernel_rfl
  f118 := Tryf.func18.trans (congrArg some (by kernel_rfl))
  f165 := Tryf.func19.trans (congrArg some (by kernel_rfl))
  f166 := Tryf.func20.trans (congrArg some (by kernel_rfl))
  f167 := Tryf.func23.trans (congrArg some (by kernel_rfl))
  f168 := Tryf.func21.trans (congrArg some (by kernel_rfl))
  f169 := Tryf.func24.trans (congrArg some (by kernel_rfl))
  f197 := Tryf.func17.trans (congrArg some (by kernel_rfl))
  f230 := Tryf.func13.trans (congrArg some (by kernel_rfl))
  f240 := Tryf.func26.trans (congrArg some (by kernel_rfl))
  f241 := Tryf.func27.trans (congrArg some (by kernel_rfl))
  f242 := Tryf.func28.trans (congrArg some (by kernel_rfl))
  f260 := Tryf.func25.trans (congrArg some (by kernel_rfl))
  f270 := Tryf.func22.trans (congrArg some (by kernel_rfl))
  f276 := Tryf.func29.trans (congrArg some (by kernel_rfl))
  f277 := Tryf.func30.trans (congrArg some (by kernel_rfl))
  f278 := Tryf.func31.trans (congrArg some (by kernel_rfl))
  t0 := Tryf.underlying0
  a0 := Tryf.isAgg0
  z0 := Tryf.sizeOf0
  v0 := Tryf.zeroValue0
  t3 := Tryf.underlying3
  a3 := Tryf.isAgg3
  z3 := Tryf.sizeOf3
  v3 := Tryf.zeroValue3
  t4 := Tryf.underlying4
  a4 := Tryf.isAgg4
  z4 := Tryf.sizeOf4
  v4 := Tryf.zeroValue4
  t5 := Tryf.underlying5
  a5 := Tryf.isAgg5
  z5 := Tryf.sizeOf5
  v5 := Tryf.zeroValue5
  t9 := Tryf.underlying9
  a9 := Tryf.isAgg9
  z9 := Tryf.sizeOf9
  v9 := Tryf.zeroValue9
  t20 := Tryf.underlying20
  a20 := Tryf.isAgg20
  z20 := Tryf.sizeOf20
  v20 := Tryf.zeroValue20
  t21 := Tryf.underlying21
  a21 := Tryf.isAgg21
  z21 := Tryf.sizeOf21
  v21 := Tryf.zeroValue21
  t37 := Tryf.underlying39
  a37 := Tryf.isAgg39
  z37 := Tryf.sizeOf39
  v37 := Tryf.zeroValue39
  t46 := Tryf.underlying85
  a46 := Tryf.isAgg85
  z46 := Tryf.sizeOf85
  v46 := Tryf.zeroValue85
  t51 := Tryf.underlying44
  a51 := Tryf.isAgg44
  z51 := Tryf.sizeOf44
  v51 := Tryf.zeroValue44
  t70 := Tryf.underlying69
  a70 := Tryf.isAgg69
  z70 := Tryf.sizeOf69
  v70 := Tryf.zeroValue69
  t72 := Tryf.underlying71
  a72 := Tryf.isAgg71
  z72 := Tryf.sizeOf71
  v72 := Tryf.zeroValue71
  t75 := Tryf.underlying36
  a75 := Tryf.isAgg36
  z75 := Tryf.sizeOf36
  v75 := Tryf.zeroValue36
  t76 := Tryf.underlying37
  a76 := Tryf.isAgg37
  z76 := Tryf.sizeOf37
  v76 := Tryf.zeroValue37
  t105 := Tryf.underlying72
  a105 := Tryf.isAgg72
  z105 := Tryf.sizeOf72
  v105 := Tryf.zeroValue72
  t107 := Tryf.underlying65
  a107 := Tryf.isAgg65
  z107 := Tryf.sizeOf65
  v107 := Tryf.zeroValue65
  t119 := Tryf.underlying84
  a119 := Tryf.isAgg84
  z119 := Tryf.sizeOf84
  t127 := Tryf.underlying83
  a127 := Tryf.isAgg83
  z127 := Tryf.sizeOf83
  v127 := Tryf.zeroValue83
  t138 := Tryf.underlying87
  a138 := Tryf.isAgg87
  z138 := Tryf.sizeOf87
  v138 := Tryf.zeroValue87
  t139 := Tryf.underlying88
  a139 := Tryf.isAgg88
  z139 := Tryf.sizeOf88
  v139 := Tryf.zeroValue88
  t164 := Tryf.underlying49
  a164 := Tryf.isAgg49
  z164 := Tryf.sizeOf49
  v164 := Tryf.zeroValue49
  g3 := by kernel_rfl
  g4 := by kernel_rfl }
theorem Tryf.Builder_Extra_230 : Builder.Extra Tryf.prog Tryf.lays230_ren := {
  sizeBuilder := by kernel_rfl
  liesBuilder := by kernel_rfl
  t5 := Tryf.underlying5
  a5 := Tryf.isAgg5
  z5 := Tryf.sizeOf5
  v5 := Tryf.zeroValue5
  infoByte := by kernel_rfl
  cellsByte := by kernel_rfl
  sizeByte := by kernel_rfl
  neB5 := by decide }
open Go.RowKit Go.Lib in
theorem Tryf.strings_Map_runes (g : Nat) (lb : Array Value) (eg : ∀ args w, (callFunc g args).run Tryf.prog w = .ok (.enter g args) w) (f : Int → Int) (s : ByteArray) (w : World) (hs : s.size < 35184372088832) (hf : MapAtRunes Tryf.prog g lb f w) (hnn : ∀ x : Nat, x ≤ 1114111 → 0 ≤ f x ∧ f x ≤ 2147483647) (hT : Lib.Utf8Tabs 1 2 w) :
    Calls Tryf.prog 13 #[.func (.func g) #[] lb, .string s] w fun e w' => e = .returned (.string ⟨(Lib.mapD f s.data.toList).toArray⟩) ∧ Below w.heap.size w w' := Any.strings_Map_runes Tryf.lays230 Tryf.Builder_Extra_230 g lb eg f s w hs hf hnn hT
open Go.RowKit Go.Lib in
/-- **strings.Map(mapping, s) AT EVERY STRING, AT WHATEVER FUNCTION VALUE: IT MAY DROP RUNES (a negative result); IT MAY GROW THE HEAP.** (LAID: no walk: one application.) -/
theorem Tryf.strings_Map_grows (g : Nat) (lb : Array Value) (eg : ∀ args w, (callFunc g args).run Tryf.prog w = .ok (.enter g args) w) (f : Int → Int) (s : ByteArray) (w : World) (hs : s.size < 35184372088832) (hf : MapGrows Tryf.prog g lb f w) (hnn : ∀ x : Nat, x ≤ 1114111 → -2147483648 ≤ f x ∧ f x ≤ 2147483647) (hT : Lib.Utf8Tabs 1 2 w) :
    Calls Tryf.prog 13 #[.func (.func g) #[] lb, .string s] w fun e w' => e = .returned (.string ⟨(Lib.mapD f s.data.toList).toArray⟩) ∧ Below w.heap.size w w' := Any.strings_Map_grows Tryf.lays230 Tryf.Builder_Extra_230 g lb eg f s w hs hf hnn hT
end Go.Proofs
