/-
  DERIVED: THE SHELF's CONTRACTS AT THIS DUMP, IN PLAIN WORDS (tools/lay-plain.mjs out of 'TrydShelf.lean', which tools/lay-shelf.mjs wrote): THE SAME DECLARATIONS UNDER THE SAME NAMES: 'import', 'namespace', 'open', 'def', 'theorem' AND NOTHING ELSE: no command of the shelf's: FOR A HAND-IN. Each laying: the table of numbers ('.._ren') and one theorem, a field a fact of the dump's own or the kernel's comparison; each contract: ONE APPLICATION.
-/
import Derived.Shelf.Small.Strs
import Derived.Shelf.Strings.Fold
import Derived.Shelf.Unicode.Decode
import Derived.Test.Qxb6604104aDoorProg
namespace Go.Proofs
open Go.Shelf
def Tryd.lays137_ren : Go.Shelf.Ren := ⟨fun | 137 => 20 | 217 => 23 | 266 => 27 | n => n, fun | 9 => 9 | 5 => 5 | 3 => 3 | n => n, fun | n => n⟩
theorem Tryd.lays137 : Go.Proofs.Lays.n137 Tryd.prog Tryd.lays137_ren := {
  mixed := by kernel_rfl
  f137 := Tryd.func20.trans (congrArg some (by kernel_rfl))
  f217 := Tryd.func23.trans (congrArg some (by kernel_rfl))
  f266 := Tryd.func27.trans (congrArg some (by kernel_rfl))
  t3 := Tryd.underlying3
  a3 := Tryd.isAgg3
  z3 := Tryd.sizeOf3
  v3 := Tryd.zeroValue3
  t5 := Tryd.underlying5
  a5 := Tryd.isAgg5
  z5 := Tryd.sizeOf5
  v5 := Tryd.zeroValue5
  t9 := Tryd.underlying9
  a9 := Tryd.isAgg9
  z9 := Tryd.sizeOf9
  v9 := Tryd.zeroValue9 }
open Go.RowKit in
/-- strings.IndexByte: "IndexByte returns the index of the first instance of c in s, or -1 if c is not present in s.": IT RETURNS 'Lib.indexByte s c'; the world is as it was. (LAID: no walk: one application.) -/
theorem Tryd.strings_IndexByte (s : ByteArray) (c : Int) (w : World) :
    Calls Tryd.prog 20 #[.string s, .int .u8 c] w fun e w' => e = .returned (.int .i64 (Lib.indexByte s.data.toList c.toNat.toUInt8)) ∧ w' = w := Any.strings_IndexByte Tryd.lays137 s c w
def Tryd.lays164_ren : Go.Shelf.Ren := ⟨fun | 164 => 17 | 197 => 21 | 239 => 22 | 260 => 24 | 274 => 25 | 275 => 26 | n => n, fun | 9 => 9 | 4 => 4 | 3 => 3 | 5 => 5 | 0 => 0 | 21 => 21 | 105 => 40 | 156 => 44 | 49 => 43 | 157 => 45 | 46 => 46 | 159 => 48 | 162 => 51 | 160 => 49 | 119 => 35 | 139 => 55 | 138 => 54 | 208 => 60 | 51 => 56 | 206 => 58 | n => n, fun | 11 => 0 | 12 => 1 | 13 => 2 | 3 => 3 | 4 => 4 | n => n⟩
theorem Tryd.lays164 : Go.Proofs.Lays.n164 Tryd.prog Tryd.lays164_ren := {
  mixed := by kernel_rfl
  f164 := Tryd.func17.trans (congrArg some (by kernel_rfl))
  f197 := Tryd.func21.trans (congrArg some (by kernel_rfl))
  f239 := Tryd.func22.trans (congrArg some (by kernel_rfl))
  f260 := Tryd.func24.trans (congrArg some (by kernel_rfl))
  f274 := Tryd.func25.trans (congrArg some (by kernel_rfl))
  f275 := Tryd.func26.trans (congrArg some (by kernel_rfl))
  t0 := Tryd.underlying0
  a0 := Tryd.isAgg0
  z0 := Tryd.sizeOf0
  v0 := Tryd.zeroValue0
  t3 := Tryd.underlying3
  a3 := Tryd.isAgg3
  z3 := Tryd.sizeOf3
  v3 := Tryd.zeroValue3
  t4 := Tryd.underlying4
  a4 := Tryd.isAgg4
  z4 := Tryd.sizeOf4
  v4 := Tryd.zeroValue4
  t5 := Tryd.underlying5
  a5 := Tryd.isAgg5
  z5 := Tryd.sizeOf5
  v5 := Tryd.zeroValue5
  t9 := Tryd.underlying9
  a9 := Tryd.isAgg9
  z9 := Tryd.sizeOf9
  v9 := Tryd.zeroValue9
  t21 := Tryd.underlying21
  a21 := Tryd.isAgg21
  z21 := Tryd.sizeOf21
  v21 := Tryd.zeroValue21
  t46 := Tryd.underlying46
  a46 := Tryd.isAgg46
  z46 := Tryd.sizeOf46
  v46 := Tryd.zeroValue46
  t49 := Tryd.underlying43
  a49 := Tryd.isAgg43
  z49 := Tryd.sizeOf43
  v49 := Tryd.zeroValue43
  t51 := Tryd.underlying56
  a51 := Tryd.isAgg56
  z51 := Tryd.sizeOf56
  v51 := Tryd.zeroValue56
  t105 := Tryd.underlying40
  a105 := Tryd.isAgg40
  z105 := Tryd.sizeOf40
  v105 := Tryd.zeroValue40
  t119 := Tryd.underlying35
  a119 := Tryd.isAgg35
  z119 := Tryd.sizeOf35
  t138 := Tryd.underlying54
  a138 := Tryd.isAgg54
  z138 := Tryd.sizeOf54
  v138 := Tryd.zeroValue54
  t139 := Tryd.underlying55
  a139 := Tryd.isAgg55
  z139 := Tryd.sizeOf55
  v139 := Tryd.zeroValue55
  t156 := Tryd.underlying44
  a156 := Tryd.isAgg44
  z156 := Tryd.sizeOf44
  t157 := Tryd.underlying45
  a157 := Tryd.isAgg45
  z157 := Tryd.sizeOf45
  v157 := Tryd.zeroValue45
  t159 := Tryd.underlying48
  a159 := Tryd.isAgg48
  z159 := Tryd.sizeOf48
  v159 := Tryd.zeroValue48
  t160 := Tryd.underlying49
  a160 := Tryd.isAgg49
  z160 := Tryd.sizeOf49
  v160 := Tryd.zeroValue49
  t162 := Tryd.underlying51
  a162 := Tryd.isAgg51
  z162 := Tryd.sizeOf51
  v162 := Tryd.zeroValue51
  t206 := Tryd.underlying58
  a206 := Tryd.isAgg58
  z206 := Tryd.sizeOf58
  v206 := Tryd.zeroValue58
  t208 := Tryd.underlying60
  a208 := Tryd.isAgg60
  z208 := Tryd.sizeOf60
  v208 := Tryd.zeroValue60
  g3 := by kernel_rfl
  g4 := by kernel_rfl
  g11 := by kernel_rfl
  g12 := by kernel_rfl
  g13 := by kernel_rfl }
open Go.RowKit Go.Lib in
theorem Tryd.strings_EqualFold (s t : ByteArray) (w : World) (hs : s.size < 4294967281) (has : ∀ (j : Nat) b, s.data.toList[j]? = some b → b.toNat < 128) (hat : ∀ (j : Nat) b, t.data.toList[j]? = some b → b.toNat < 128) :
    Calls Tryd.prog 17 #[.string s, .string t] w fun e w' => e = .returned (.bool (Lib.equalFold s.data.toList t.data.toList)) ∧ w' = w := Any.strings_EqualFold Tryd.lays164 s t w hs has hat
def Tryd.lays197_ren : Go.Shelf.Ren := ⟨fun | 197 => 21 | 260 => 24 | n => n, fun | 9 => 9 | 21 => 21 | 3 => 3 | 4 => 4 | 5 => 5 | 105 => 40 | 119 => 35 | 0 => 0 | 46 => 46 | 139 => 55 | 138 => 54 | n => n, fun | 3 => 3 | 4 => 4 | n => n⟩
theorem Tryd.lays197 : Go.Proofs.Lays.n197 Tryd.prog Tryd.lays197_ren := {
  mixed := by kernel_rfl
  f197 := Tryd.func21.trans (congrArg some (by kernel_rfl))
  f260 := Tryd.func24.trans (congrArg some (by kernel_rfl))
  t0 := Tryd.underlying0
  a0 := Tryd.isAgg0
  z0 := Tryd.sizeOf0
  v0 := Tryd.zeroValue0
  t3 := Tryd.underlying3
  a3 := Tryd.isAgg3
  z3 := Tryd.sizeOf3
  v3 := Tryd.zeroValue3
  t4 := Tryd.underlying4
  a4 := Tryd.isAgg4
  z4 := Tryd.sizeOf4
  v4 := Tryd.zeroValue4
  t5 := Tryd.underlying5
  a5 := Tryd.isAgg5
  z5 := Tryd.sizeOf5
  v5 := Tryd.zeroValue5
  t9 := Tryd.underlying9
  a9 := Tryd.isAgg9
  z9 := Tryd.sizeOf9
  v9 := Tryd.zeroValue9
  t21 := Tryd.underlying21
  a21 := Tryd.isAgg21
  z21 := Tryd.sizeOf21
  v21 := Tryd.zeroValue21
  t46 := Tryd.underlying46
  a46 := Tryd.isAgg46
  z46 := Tryd.sizeOf46
  v46 := Tryd.zeroValue46
  t105 := Tryd.underlying40
  a105 := Tryd.isAgg40
  z105 := Tryd.sizeOf40
  v105 := Tryd.zeroValue40
  t119 := Tryd.underlying35
  a119 := Tryd.isAgg35
  z119 := Tryd.sizeOf35
  t138 := Tryd.underlying54
  a138 := Tryd.isAgg54
  z138 := Tryd.sizeOf54
  v138 := Tryd.zeroValue54
  t139 := Tryd.underlying55
  a139 := Tryd.isAgg55
  z139 := Tryd.sizeOf55
  v139 := Tryd.zeroValue55
  g3 := by kernel_rfl
  g4 := by kernel_rfl }
open Go.RowKit Go.Lib in
/-- unicode/utf8.DecodeRuneInString: "DecodeRuneInString is like DecodeRune but its input is a string.": ("DecodeRune unpacks the first UTF-8 encoding in p and returns the rune and its width in bytes."): WHERE s BEGINS WITH AN ASCII BYTE x: (x, 1). (LAID: no walk: one application.) -/
theorem Tryd.utf8_DecodeRuneInString_ascii (s : ByteArray) (x : UInt8) (w : World) (h0 : s.data.toList[0]? = some x) (hx : x.toNat < 128) :
    Calls Tryd.prog 21 #[.string s] w fun e w' => e = .returned (.tuple #[.int .i32 x.toNat, .int .i64 1]) ∧ w' = w := Any.utf8_DecodeRuneInString_ascii Tryd.lays197 s x w h0 hx
end Go.Proofs
