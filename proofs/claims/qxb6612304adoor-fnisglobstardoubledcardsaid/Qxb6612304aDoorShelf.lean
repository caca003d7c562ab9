/-
  DERIVED: THE SHELF's CONTRACTS AT THIS DUMP, IN PLAIN WORDS (tools/lay-plain.mjs out of 'TrydShelf.lean', which tools/lay-shelf.mjs wrote): THE SAME DECLARATIONS UNDER THE SAME NAMES: 'import', 'namespace', 'open', 'def', 'theorem' AND NOTHING ELSE: no command of the shelf's: FOR A HAND-IN. Each laying: the table of numbers ('.._ren') and one theorem, a field a fact of the dump's own or the kernel's comparison; each contract: ONE APPLICATION.
-/
import Derived.Shelf.Strings.Trim
import Derived.Test.Qxb6612304aDoorProg
namespace Go.Proofs
open Go.Shelf
def Tryd.lays231_ren : Go.Shelf.Ren := ⟨fun | 231 => 11 | n => n, fun | 9 => 9 | 5 => 5 | 3 => 3 | 4 => 4 | n => n, fun | n => n⟩
theorem Tryd.lays231 : Go.Proofs.Lays.n231 Tryd.prog Tryd.lays231_ren := {
  mixed := by kernel_rfl
  f231 := Tryd.func11.trans (congrArg some (by kernel_rfl))
  t3 := Tryd.underlying3
  a3 := Tryd.isAgg3
  z3 := Tryd.sizeOf3
  v3 := Tryd.zeroValue3
  t4 := Tryd.underlying4
  a4 := Tryd.isAgg4
  z4 := Tryd.sizeOf4
  v4 := Tryd.zeroValue4
  t5 := Tryd.underlying5
  a5 := Tryd.isAgg5
  z5 := Tryd.sizeOf5
  v5 := Tryd.zeroValue5
  t9 := Tryd.underlying9
  a9 := Tryd.isAgg9
  z9 := Tryd.sizeOf9
  v9 := Tryd.zeroValue9 }
open Go.RowKit in
/-- strings.trimLeftByte (no doc; what TrimLeft and Trim call at a cutset of one ASCII byte): the leading bytes that are c are cut off. The world is as it was. (LAID: no walk: one application.) -/
theorem Tryd.strings_trimLeftByte (s : ByteArray) (c : UInt8) (w : World) :
    Calls Tryd.prog 11 #[.string s, .int .u8 c.toNat] w fun e w' => e = .returned (.string ⟨(Lib.trimLeftB s.data.toList c).toArray⟩) ∧ w' = w := Any.strings_trimLeftByte Tryd.lays231 s c w
def Tryd.lays232_ren : Go.Shelf.Ren := ⟨fun | 232 => 12 | n => n, fun | 9 => 9 | 5 => 5 | 3 => 3 | 4 => 4 | n => n, fun | n => n⟩
theorem Tryd.lays232 : Go.Proofs.Lays.n232 Tryd.prog Tryd.lays232_ren := {
  mixed := by kernel_rfl
  f232 := Tryd.func12.trans (congrArg some (by kernel_rfl))
  t3 := Tryd.underlying3
  a3 := Tryd.isAgg3
  z3 := Tryd.sizeOf3
  v3 := Tryd.zeroValue3
  t4 := Tryd.underlying4
  a4 := Tryd.isAgg4
  z4 := Tryd.sizeOf4
  v4 := Tryd.zeroValue4
  t5 := Tryd.underlying5
  a5 := Tryd.isAgg5
  z5 := Tryd.sizeOf5
  v5 := Tryd.zeroValue5
  t9 := Tryd.underlying9
  a9 := Tryd.isAgg9
  z9 := Tryd.sizeOf9
  v9 := Tryd.zeroValue9 }
open Go.RowKit in
/-- strings.trimRightByte (no doc; what TrimRight and Trim call at a cutset of one ASCII byte): the trailing bytes that are c are cut off. The world is as it was. ('hs': a string's length is a number that an int holds.) (LAID: no walk: one application.) -/
theorem Tryd.strings_trimRightByte (s : ByteArray) (c : UInt8) (w : World) (hs : s.size ≤ 9223372036854775807) :
    Calls Tryd.prog 12 #[.string s, .int .u8 c.toNat] w fun e w' => e = .returned (.string ⟨(Lib.trimRightB s.data.toList c).toArray⟩) ∧ w' = w := Any.strings_trimRightByte Tryd.lays232 s c w hs
def Tryd.lays160_ren : Go.Shelf.Ren := ⟨fun | 160 => 10 | 232 => 12 | 231 => 11 | 227 => 13 | 234 => 15 | 233 => 14 | 236 => 17 | 235 => 16 | 228 => 18 | 271 => 21 | 151 => 20 | 197 => 19 | 120 => 24 | 152 => 23 | 260 => 22 | 137 => 25 | 119 => 26 | 224 => 27 | 225 => 28 | 217 => 29 | 266 => 30 | n => n, fun | 9 => 9 | 4 => 4 | 3 => 3 | 5 => 5 | 117 => 28 | 116 => 27 | 0 => 0 | 124 => 31 | 21 => 21 | 105 => 33 | 46 => 38 | 119 => 37 | 139 => 41 | 138 => 40 | n => n, fun | 3 => 0 | 4 => 1 | n => n⟩
theorem Tryd.lays160 : Go.Proofs.Lays.n160 Tryd.prog Tryd.lays160_ren := {
  mixed := by kernel_rfl
  f119 := Tryd.func26.trans (congrArg some (by kernel_rfl))
  f120 := Tryd.func24.trans (congrArg some (by kernel_rfl))
  f137 := Tryd.func25.trans (congrArg some (by kernel_rfl))
  f151 := Tryd.func20.trans (congrArg some (by kernel_rfl))
  f152 := Tryd.func23.trans (congrArg some (by kernel_rfl))
  f160 := Tryd.func10.trans (congrArg some (by kernel_rfl))
  f197 := Tryd.func19.trans (congrArg some (by kernel_rfl))
  f217 := Tryd.func29.trans (congrArg some (by kernel_rfl))
  f224 := Tryd.func27.trans (congrArg some (by kernel_rfl))
  f225 := Tryd.func28.trans (congrArg some (by kernel_rfl))
  f227 := Tryd.func13.trans (congrArg some (by kernel_rfl))
  f228 := Tryd.func18.trans (congrArg some (by kernel_rfl))
  f231 := Tryd.func11.trans (congrArg some (by kernel_rfl))
  f232 := Tryd.func12.trans (congrArg some (by kernel_rfl))
  f233 := Tryd.func14.trans (congrArg some (by kernel_rfl))
  f234 := Tryd.func15.trans (congrArg some (by kernel_rfl))
  f235 := Tryd.func16.trans (congrArg some (by kernel_rfl))
  f236 := Tryd.func17.trans (congrArg some (by kernel_rfl))
  f260 := Tryd.func22.trans (congrArg some (by kernel_rfl))
  f266 := Tryd.func30.trans (congrArg some (by kernel_rfl))
  f271 := Tryd.func21.trans (congrArg some (by kernel_rfl))
  t0 := Tryd.underlying0
  a0 := Tryd.isAgg0
  z0 := Tryd.sizeOf0
  v0 := Tryd.zeroValue0
  t3 := Tryd.underlying3
  a3 := Tryd.isAgg3
  z3 := Tryd.sizeOf3
  v3 := Tryd.zeroValue3
  t4 := Tryd.underlying4
  a4 := Tryd.isAgg4
  z4 := Tryd.sizeOf4
  v4 := Tryd.zeroValue4
  t5 := Tryd.underlying5
  a5 := Tryd.isAgg5
  z5 := Tryd.sizeOf5
  v5 := Tryd.zeroValue5
  t9 := Tryd.underlying9
  a9 := Tryd.isAgg9
  z9 := Tryd.sizeOf9
  v9 := Tryd.zeroValue9
  t21 := Tryd.underlying21
  a21 := Tryd.isAgg21
  z21 := Tryd.sizeOf21
  v21 := Tryd.zeroValue21
  t46 := Tryd.underlying38
  a46 := Tryd.isAgg38
  z46 := Tryd.sizeOf38
  v46 := Tryd.zeroValue38
  t105 := Tryd.underlying33
  a105 := Tryd.isAgg33
  z105 := Tryd.sizeOf33
  v105 := Tryd.zeroValue33
  t116 := Tryd.underlying27
  a116 := Tryd.isAgg27
  z116 := Tryd.sizeOf27
  t117 := Tryd.underlying28
  a117 := Tryd.isAgg28
  z117 := Tryd.sizeOf28
  v117 := Tryd.zeroValue28
  t119 := Tryd.underlying37
  a119 := Tryd.isAgg37
  z119 := Tryd.sizeOf37
  t124 := Tryd.underlying31
  a124 := Tryd.isAgg31
  z124 := Tryd.sizeOf31
  v124 := Tryd.zeroValue31
  t138 := Tryd.underlying40
  a138 := Tryd.isAgg40
  z138 := Tryd.sizeOf40
  v138 := Tryd.zeroValue40
  t139 := Tryd.underlying41
  a139 := Tryd.isAgg41
  z139 := Tryd.sizeOf41
  v139 := Tryd.zeroValue41
  g3 := by kernel_rfl
  g4 := by kernel_rfl }
open Go.RowKit in
/-- strings.Trim: "Trim returns a slice of the string s with all leading and trailing Unicode code points contained in cutset removed.": AT A cutset OF ONE ASCII BYTE. THE WORLD BEHIND IT: as it was, or (where s is not empty) with ONE DRAW MORE off the tape: the statement 'return trimLeftByte(trimRightByte(s, c), c)' draws its order of evaluation. (LAID: no walk: one application.) -/
theorem Tryd.strings_Trim_one (s : ByteArray) (c : UInt8) (hc : c.toNat < 128) (w : World) (hs : s.size ≤ 9223372036854775807) :
    Calls Tryd.prog 10 #[.string s, .string ⟨#[c]⟩] w fun e w' => e = .returned (.string ⟨(Lib.trimB s.data.toList c).toArray⟩) ∧ (w' = w ∨ w' = w.drew) := Any.strings_Trim_one Tryd.lays160 s c hc w hs
end Go.Proofs
