/-
  DERIVED: THE SHELF's CONTRACTS AT THIS DUMP, IN PLAIN WORDS (tools/lay-plain.mjs out of 'TrydShelf.lean', which tools/lay-shelf.mjs wrote): THE SAME DECLARATIONS UNDER THE SAME NAMES: 'import', 'namespace', 'open', 'def', 'theorem' AND NOTHING ELSE: no command of the shelf's: FOR A HAND-IN. Each laying: the table of numbers ('.._ren') and one theorem, a field a fact of the dump's own or the kernel's comparison; each contract: ONE APPLICATION.
-/
import Derived.Shelf.Strings.Trim
import Derived.Shelf.Small.Utf8
import Derived.Shelf.Small.Strs
import Derived.Shelf.Strings.Search1
import Derived.Shelf.Strings.Search2
import Derived.Shelf.Strings.Prefix
import Derived.Shelf.Strings.Runes
import Derived.Shelf.Strings.IndexAnyAll
import Derived.Shelf.Strings.Repeat
import Derived.Test.Qxb6604131aDoorProg
import Derived.Shelf.Strings.SlTrimAscii
namespace Go.Proofs
open Go.Shelf
def Tryd.lays161_ren : Go.Shelf.Ren := ⟨fun | 161 => 24 | 231 => 37 | 227 => 38 | 233 => 39 | 235 => 40 | 228 => 45 | 197 => 51 | 151 => 52 | 260 => 63 | 152 => 43 | 137 => 56 | 119 => 57 | 224 => 58 | 225 => 59 | 217 => 65 | 266 => 68 | n => n, fun | 9 => 9 | 4 => 4 | 3 => 3 | 5 => 5 | 117 => 68 | 116 => 67 | 0 => 0 | 124 => 71 | 105 => 81 | 21 => 21 | 119 => 90 | 46 => 52 | 139 => 93 | 138 => 92 | n => n, fun | 3 => 1 | 4 => 2 | n => n⟩
theorem Tryd.lays161 : Go.Proofs.Lays.n161 Tryd.prog Tryd.lays161_ren := {
  mixed := by kernel_rfl
  f119 := Tryd.func57.trans (congrArg some (by kernel_rfl))
  f137 := Tryd.func56.trans (congrArg some (by kernel_rfl))
  f151 := Tryd.func52.trans (congrArg some (by kernel_rfl))
  f152 := Tryd.func43.trans (congrArg some (by kernel_rfl))
  f161 := Tryd.func24.trans (congrArg some (by kernel_rfl))
  f197 := Tryd.func51.trans (congrArg some (by kernel_rfl))
  f217 := Tryd.func65.trans (congrArg some (by kernel_rfl))
  f224 := Tryd.func58.trans (congrArg some (by kernel_rfl))
  f225 := Tryd.func59.trans (congrArg some (by kernel_rfl))
  f227 := Tryd.func38.trans (congrArg some (by kernel_rfl))
  f228 := Tryd.func45.trans (congrArg some (by kernel_rfl))
  f231 := Tryd.func37.trans (congrArg some (by kernel_rfl))
  f233 := Tryd.func39.trans (congrArg some (by kernel_rfl))
  f235 := Tryd.func40.trans (congrArg some (by kernel_rfl))
  f260 := Tryd.func63.trans (congrArg some (by kernel_rfl))
  f266 := Tryd.func68.trans (congrArg some (by kernel_rfl))
  t0 := Tryd.underlying0
  a0 := Tryd.isAgg0
  z0 := Tryd.sizeOf0
  v0 := Tryd.zeroValue0
  t3 := Tryd.underlying3
  a3 := Tryd.isAgg3
  z3 := Tryd.sizeOf3
  v3 := Tryd.zeroValue3
  t4 := Tryd.underlying4
  a4 := Tryd.isAgg4
  z4 := Tryd.sizeOf4
  v4 := Tryd.zeroValue4
  t5 := Tryd.underlying5
  a5 := Tryd.isAgg5
  z5 := Tryd.sizeOf5
  v5 := Tryd.zeroValue5
  t9 := Tryd.underlying9
  a9 := Tryd.isAgg9
  z9 := Tryd.sizeOf9
  v9 := Tryd.zeroValue9
  t21 := Tryd.underlying21
  a21 := Tryd.isAgg21
  z21 := Tryd.sizeOf21
  v21 := Tryd.zeroValue21
  t46 := Tryd.underlying52
  a46 := Tryd.isAgg52
  z46 := Tryd.sizeOf52
  v46 := Tryd.zeroValue52
  t105 := Tryd.underlying81
  a105 := Tryd.isAgg81
  z105 := Tryd.sizeOf81
  v105 := Tryd.zeroValue81
  t116 := Tryd.underlying67
  a116 := Tryd.isAgg67
  z116 := Tryd.sizeOf67
  t117 := Tryd.underlying68
  a117 := Tryd.isAgg68
  z117 := Tryd.sizeOf68
  v117 := Tryd.zeroValue68
  t119 := Tryd.underlying90
  a119 := Tryd.isAgg90
  z119 := Tryd.sizeOf90
  t124 := Tryd.underlying71
  a124 := Tryd.isAgg71
  z124 := Tryd.sizeOf71
  v124 := Tryd.zeroValue71
  t138 := Tryd.underlying92
  a138 := Tryd.isAgg92
  z138 := Tryd.sizeOf92
  v138 := Tryd.zeroValue92
  t139 := Tryd.underlying93
  a139 := Tryd.isAgg93
  z139 := Tryd.sizeOf93
  v139 := Tryd.zeroValue93
  g3 := by kernel_rfl
  g4 := by kernel_rfl }
open Go.RowKit in
/-- strings.TrimLeft: "TrimLeft returns a slice of the string s with all leading Unicode code points contained in cutset removed.": AT A cutset OF ONE ASCII BYTE. The world is as it was. (LAID: no walk: one application.) -/
theorem Tryd.strings_TrimLeft_one (s : ByteArray) (c : UInt8) (hc : c.toNat < 128) (w : World) :
    Calls Tryd.prog 24 #[.string s, .string ⟨#[c]⟩] w fun e w' => e = .returned (.string ⟨(Lib.trimLeftB s.data.toList c).toArray⟩) ∧ w' = w := Any.strings_TrimLeft_one Tryd.lays161 s c hc w
def Tryd.lays160_ren : Go.Shelf.Ren := ⟨fun | 160 => 41 | 232 => 53 | 231 => 37 | 227 => 38 | 234 => 54 | 233 => 39 | 236 => 55 | 235 => 40 | 228 => 45 | 271 => 64 | 151 => 52 | 197 => 51 | 120 => 67 | 152 => 43 | 260 => 63 | 137 => 56 | 119 => 57 | 224 => 58 | 225 => 59 | 217 => 65 | 266 => 68 | n => n, fun | 9 => 9 | 4 => 4 | 3 => 3 | 5 => 5 | 117 => 68 | 116 => 67 | 0 => 0 | 124 => 71 | 21 => 21 | 105 => 81 | 46 => 52 | 119 => 90 | 139 => 93 | 138 => 92 | n => n, fun | 3 => 1 | 4 => 2 | n => n⟩
theorem Tryd.lays160 : Go.Proofs.Lays.n160 Tryd.prog Tryd.lays160_ren := {
  mixed := by kernel_rfl
  f119 := Tryd.func57.trans (congrArg some (by kernel_rfl))
  f120 := Tryd.func67.trans (congrArg some (by kernel_rfl))
  f137 := Tryd.func56.trans (congrArg some (by kernel_rfl))
  f151 := Tryd.func52.trans (congrArg some (by kernel_rfl))
  f152 := Tryd.func43.trans (congrArg some (by kernel_rfl))
  f160 := Tryd.func41.trans (congrArg some (by kernel_rfl))
  f197 := Tryd.func51.trans (congrArg some (by kernel_rfl))
  f217 := Tryd.func65.trans (congrArg some (by kernel_rfl))
  f224 := Tryd.func58.trans (congrArg some (by kernel_rfl))
  f225 := Tryd.func59.trans (congrArg some (by kernel_rfl))
  f227 := Tryd.func38.trans (congrArg some (by kernel_rfl))
  f228 := Tryd.func45.trans (congrArg some (by kernel_rfl))
  f231 := Tryd.func37.trans (congrArg some (by kernel_rfl))
  f232 := Tryd.func53.trans (congrArg some (by kernel_rfl))
  f233 := Tryd.func39.trans (congrArg some (by kernel_rfl))
  f234 := Tryd.func54.trans (congrArg some (by kernel_rfl))
  f235 := Tryd.func40.trans (congrArg some (by kernel_rfl))
  f236 := Tryd.func55.trans (congrArg some (by kernel_rfl))
  f260 := Tryd.func63.trans (congrArg some (by kernel_rfl))
  f266 := Tryd.func68.trans (congrArg some (by kernel_rfl))
  f271 := Tryd.func64.trans (congrArg some (by kernel_rfl))
  t0 := Tryd.underlying0
  a0 := Tryd.isAgg0
  z0 := Tryd.sizeOf0
  v0 := Tryd.zeroValue0
  t3 := Tryd.underlying3
  a3 := Tryd.isAgg3
  z3 := Tryd.sizeOf3
  v3 := Tryd.zeroValue3
  t4 := Tryd.underlying4
  a4 := Tryd.isAgg4
  z4 := Tryd.sizeOf4
  v4 := Tryd.zeroValue4
  t5 := Tryd.underlying5
  a5 := Tryd.isAgg5
  z5 := Tryd.sizeOf5
  v5 := Tryd.zeroValue5
  t9 := Tryd.underlying9
  a9 := Tryd.isAgg9
  z9 := Tryd.sizeOf9
  v9 := Tryd.zeroValue9
  t21 := Tryd.underlying21
  a21 := Tryd.isAgg21
  z21 := Tryd.sizeOf21
  v21 := Tryd.zeroValue21
  t46 := Tryd.underlying52
  a46 := Tryd.isAgg52
  z46 := Tryd.sizeOf52
  v46 := Tryd.zeroValue52
  t105 := Tryd.underlying81
  a105 := Tryd.isAgg81
  z105 := Tryd.sizeOf81
  v105 := Tryd.zeroValue81
  t116 := Tryd.underlying67
  a116 := Tryd.isAgg67
  z116 := Tryd.sizeOf67
  t117 := Tryd.underlying68
  a117 := Tryd.isAgg68
  z117 := Tryd.sizeOf68
  v117 := Tryd.zeroValue68
  t119 := Tryd.underlying90
  a119 := Tryd.isAgg90
  z119 := Tryd.sizeOf90
  t124 := Tryd.underlying71
  a124 := Tryd.isAgg71
  z124 := Tryd.sizeOf71
  v124 := Tryd.zeroValue71
  t138 := Tryd.underlying92
  a138 := Tryd.isAgg92
  z138 := Tryd.sizeOf92
  v138 := Tryd.zeroValue92
  t139 := Tryd.underlying93
  a139 := Tryd.isAgg93
  z139 := Tryd.sizeOf93
  v139 := Tryd.zeroValue93
  g3 := by kernel_rfl
  g4 := by kernel_rfl }
open Go.RowKit in
/-- strings.Trim: "Trim returns a slice of the string s with all leading and trailing Unicode code points contained in cutset removed.": AT A cutset OF ONE ASCII BYTE. THE WORLD BEHIND IT: as it was, or (where s is not empty) with ONE DRAW MORE off the tape: the statement 'return trimLeftByte(trimRightByte(s, c), c)' draws its order of evaluation. (LAID: no walk: one application.) -/
theorem Tryd.strings_Trim_one (s : ByteArray) (c : UInt8) (hc : c.toNat < 128) (w : World) (hs : s.size ≤ 9223372036854775807) :
    Calls Tryd.prog 41 #[.string s, .string ⟨#[c]⟩] w fun e w' => e = .returned (.string ⟨(Lib.trimB s.data.toList c).toArray⟩) ∧ (w' = w ∨ w' = w.drew) := Any.strings_Trim_one Tryd.lays160 s c hc w hs
def Tryd.lays119_ren : Go.Shelf.Ren := ⟨fun | 119 => 57 | n => n, fun | 21 => 21 | 4 => 4 | n => n, fun | n => n⟩
theorem Tryd.lays119 : Go.Proofs.Lays.n119 Tryd.prog Tryd.lays119_ren := {
  mixed := by kernel_rfl
  f119 := Tryd.func57.trans (congrArg some (by kernel_rfl))
  t4 := Tryd.underlying4
  a4 := Tryd.isAgg4
  z4 := Tryd.sizeOf4
  v4 := Tryd.zeroValue4
  t21 := Tryd.underlying21
  a21 := Tryd.isAgg21
  z21 := Tryd.sizeOf21
  v21 := Tryd.zeroValue21 }
/-- utf8.ValidRune: "ValidRune reports whether r can be legally encoded as UTF-8. Code points that are out of range or a surrogate half are illegal.": IT RETURNS 'Lib.validRune r'; the world is as it was. (LAID: no walk: one application.) -/
theorem Tryd.utf8_ValidRune (r : Int) (w : World) :
    Calls Tryd.prog 57 #[.int .i32 r] w fun e w' => e = .returned (.bool (Lib.validRune r)) ∧ w' = w := Any.utf8_ValidRune Tryd.lays119 r w
def Tryd.lays137_ren : Go.Shelf.Ren := ⟨fun | 137 => 56 | 217 => 65 | 266 => 68 | n => n, fun | 9 => 9 | 5 => 5 | 3 => 3 | n => n, fun | n => n⟩
theorem Tryd.lays137 : Go.Proofs.Lays.n137 Tryd.prog Tryd.lays137_ren := {
  mixed := by kernel_rfl
  f137 := Tryd.func56.trans (congrArg some (by kernel_rfl))
  f217 := Tryd.func65.trans (congrArg some (by kernel_rfl))
  f266 := Tryd.func68.trans (congrArg some (by kernel_rfl))
  t3 := Tryd.underlying3
  a3 := Tryd.isAgg3
  z3 := Tryd.sizeOf3
  v3 := Tryd.zeroValue3
  t5 := Tryd.underlying5
  a5 := Tryd.isAgg5
  z5 := Tryd.sizeOf5
  v5 := Tryd.zeroValue5
  t9 := Tryd.underlying9
  a9 := Tryd.isAgg9
  z9 := Tryd.sizeOf9
  v9 := Tryd.zeroValue9 }
open Go.RowKit in
/-- strings.IndexByte: "IndexByte returns the index of the first instance of c in s, or -1 if c is not present in s.": IT RETURNS 'Lib.indexByte s c'; the world is as it was. (LAID: no walk: one application.) -/
theorem Tryd.strings_IndexByte (s : ByteArray) (c : Int) (w : World) :
    Calls Tryd.prog 56 #[.string s, .int .u8 c] w fun e w' => e = .returned (.int .i64 (Lib.indexByte s.data.toList c.toNat.toUInt8)) ∧ w' = w := Any.strings_IndexByte Tryd.lays137 s c w
def Tryd.lays217_ren : Go.Shelf.Ren := ⟨fun | 217 => 65 | 266 => 68 | n => n, fun | 9 => 9 | 5 => 5 | 3 => 3 | n => n, fun | n => n⟩
theorem Tryd.lays217 : Go.Proofs.Lays.n217 Tryd.prog Tryd.lays217_ren := {
  mixed := by kernel_rfl
  f217 := Tryd.func65.trans (congrArg some (by kernel_rfl))
  f266 := Tryd.func68.trans (congrArg some (by kernel_rfl))
  t3 := Tryd.underlying3
  a3 := Tryd.isAgg3
  z3 := Tryd.sizeOf3
  v3 := Tryd.zeroValue3
  t5 := Tryd.underlying5
  a5 := Tryd.isAgg5
  z5 := Tryd.sizeOf5
  v5 := Tryd.zeroValue5
  t9 := Tryd.underlying9
  a9 := Tryd.isAgg9
  z9 := Tryd.sizeOf9
  v9 := Tryd.zeroValue9 }
open Go.RowKit Go.Lib in
/-- internal/stringslite.IndexByte (what strings.IndexByte calls): IT RETURNS 'Lib.indexByte s c'; the world is as it was. (LAID: no walk: one application.) -/
theorem Tryd.stringslite_IndexByte (s : ByteArray) (c : Int) (w : World) :
    Calls Tryd.prog 65 #[.string s, .int .u8 c] w fun e w' => e = .returned (.int .i64 (Lib.indexByte s.data.toList c.toNat.toUInt8)) ∧ w' = w := Any.stringslite_IndexByte Tryd.lays217 s c w
def Tryd.lays219_ren : Go.Shelf.Ren := ⟨fun | 219 => 60 | 217 => 65 | 225 => 59 | 224 => 58 | 267 => 66 | 266 => 68 | 314 => 69 | n => n, fun | 9 => 9 | 3 => 3 | 4 => 4 | 5 => 5 | 46 => 52 | 146 => 75 | 51 => 74 | n => n, fun | 1 => 0 | n => n⟩
theorem Tryd.lays219 : Go.Proofs.Lays.n219 Tryd.prog Tryd.lays219_ren := {
  mixed := by kernel_rfl
  f217 := Tryd.func65.trans (congrArg some (by kernel_rfl))
  f219 := Tryd.func60.trans (congrArg some (by kernel_rfl))
  f224 := Tryd.func58.trans (congrArg some (by kernel_rfl))
  f225 := Tryd.func59.trans (congrArg some (by kernel_rfl))
  f266 := Tryd.func68.trans (congrArg some (by kernel_rfl))
  f267 := Tryd.func66.trans (congrArg some (by kernel_rfl))
  f314 := Tryd.func69.trans (congrArg some (by kernel_rfl))
  t3 := Tryd.underlying3
  a3 := Tryd.isAgg3
  z3 := Tryd.sizeOf3
  v3 := Tryd.zeroValue3
  t4 := Tryd.underlying4
  a4 := Tryd.isAgg4
  z4 := Tryd.sizeOf4
  v4 := Tryd.zeroValue4
  t5 := Tryd.underlying5
  a5 := Tryd.isAgg5
  z5 := Tryd.sizeOf5
  v5 := Tryd.zeroValue5
  t9 := Tryd.underlying9
  a9 := Tryd.isAgg9
  z9 := Tryd.sizeOf9
  v9 := Tryd.zeroValue9
  t46 := Tryd.underlying52
  a46 := Tryd.isAgg52
  z46 := Tryd.sizeOf52
  v46 := Tryd.zeroValue52
  t51 := Tryd.underlying74
  a51 := Tryd.isAgg74
  z51 := Tryd.sizeOf74
  v51 := Tryd.zeroValue74
  t146 := Tryd.underlying75
  a146 := Tryd.isAgg75
  z146 := Tryd.sizeOf75
  v146 := Tryd.zeroValue75
  g1 := by kernel_rfl }
open Go.RowKit Go.Lib in
/-- internal/stringslite.Index (what strings.Index calls) AT A substr OF ONE BYTE c: IT RETURNS 'Lib.indexByte s c'; the world is as it was. (LAID: no walk: one application.) -/
theorem Tryd.stringslite_Index_one (s : ByteArray) (c : UInt8) (w : World) :
    Calls Tryd.prog 60 #[.string s, .string ⟨#[c]⟩] w fun e w' => e = .returned (.int .i64 (Lib.indexByte s.data.toList c)) ∧ w' = w := Any.stringslite_Index_one Tryd.lays219 s c w
def Tryd.lays99_ren : Go.Shelf.Ren := ⟨fun | 99 => 26 | 206 => 42 | n => n, fun | 9 => 9 | 4 => 4 | 3 => 3 | n => n, fun | n => n⟩
theorem Tryd.lays99 : Go.Proofs.Lays.n99 Tryd.prog Tryd.lays99_ren := {
  mixed := by kernel_rfl
  f99 := Tryd.func26.trans (congrArg some (by kernel_rfl))
  f206 := Tryd.func42.trans (congrArg some (by kernel_rfl))
  t3 := Tryd.underlying3
  a3 := Tryd.isAgg3
  z3 := Tryd.sizeOf3
  v3 := Tryd.zeroValue3
  t4 := Tryd.underlying4
  a4 := Tryd.isAgg4
  z4 := Tryd.sizeOf4
  v4 := Tryd.zeroValue4
  t9 := Tryd.underlying9
  a9 := Tryd.isAgg9
  z9 := Tryd.sizeOf9
  v9 := Tryd.zeroValue9 }
open Go.RowKit Go.Lib in
/-- strings.HasPrefix: "HasPrefix reports whether the string s begins with prefix.": IT RETURNS 'Lib.hasPrefix s prefix'; the world is as it was. (LAID: no walk: one application.) -/
theorem Tryd.strings_HasPrefix (s p : ByteArray) (w : World) :
    Calls Tryd.prog 26 #[.string s, .string p] w fun e w' => e = .returned (.bool (Lib.hasPrefix s.data.toList p.data.toList)) ∧ w' = w := Any.strings_HasPrefix Tryd.lays99 s p w
def Tryd.lays152_ren : Go.Shelf.Ren := ⟨fun | 152 => 43 | 137 => 56 | 119 => 57 | 224 => 58 | 225 => 59 | 217 => 65 | 266 => 68 | n => n, fun | 9 => 9 | 21 => 21 | 3 => 3 | 4 => 4 | 5 => 5 | 0 => 0 | 46 => 52 | n => n, fun | n => n⟩
theorem Tryd.lays152 : Go.Proofs.Lays.n152 Tryd.prog Tryd.lays152_ren := {
  mixed := by kernel_rfl
  f119 := Tryd.func57.trans (congrArg some (by kernel_rfl))
  f137 := Tryd.func56.trans (congrArg some (by kernel_rfl))
  f152 := Tryd.func43.trans (congrArg some (by kernel_rfl))
  f217 := Tryd.func65.trans (congrArg some (by kernel_rfl))
  f224 := Tryd.func58.trans (congrArg some (by kernel_rfl))
  f225 := Tryd.func59.trans (congrArg some (by kernel_rfl))
  f266 := Tryd.func68.trans (congrArg some (by kernel_rfl))
  t0 := Tryd.underlying0
  a0 := Tryd.isAgg0
  z0 := Tryd.sizeOf0
  v0 := Tryd.zeroValue0
  t3 := Tryd.underlying3
  a3 := Tryd.isAgg3
  z3 := Tryd.sizeOf3
  v3 := Tryd.zeroValue3
  t4 := Tryd.underlying4
  a4 := Tryd.isAgg4
  z4 := Tryd.sizeOf4
  v4 := Tryd.zeroValue4
  t5 := Tryd.underlying5
  a5 := Tryd.isAgg5
  z5 := Tryd.sizeOf5
  v5 := Tryd.zeroValue5
  t9 := Tryd.underlying9
  a9 := Tryd.isAgg9
  z9 := Tryd.sizeOf9
  v9 := Tryd.zeroValue9
  t21 := Tryd.underlying21
  a21 := Tryd.isAgg21
  z21 := Tryd.sizeOf21
  v21 := Tryd.zeroValue21
  t46 := Tryd.underlying52
  a46 := Tryd.isAgg52
  z46 := Tryd.sizeOf52
  v46 := Tryd.zeroValue52 }
open Go.RowKit Go.Lib in
theorem Tryd.strings_IndexRune_ascii (s : ByteArray) (r : Int) (w : World) (h0 : 0 ≤ r) (h1 : r < 128) :
    Calls Tryd.prog 43 #[.string s, .int .i32 r] w fun e w' => e = .returned (.int .i64 (Lib.indexByte s.data.toList r.toNat.toUInt8)) ∧ w' = w := Any.strings_IndexRune_ascii Tryd.lays152 s r w h0 h1
def Tryd.lays226_ren : Go.Shelf.Ren := ⟨fun | 226 => 44 | n => n, fun | 3 => 3 | 4 => 4 | n => n, fun | n => n⟩
theorem Tryd.lays226 : Go.Proofs.Lays.n226 Tryd.prog Tryd.lays226_ren := {
  mixed := by kernel_rfl
  f226 := Tryd.func44.trans (congrArg some (by kernel_rfl))
  t3 := Tryd.underlying3
  a3 := Tryd.isAgg3
  z3 := Tryd.sizeOf3
  v3 := Tryd.zeroValue3
  t4 := Tryd.underlying4
  a4 := Tryd.isAgg4
  z4 := Tryd.sizeOf4
  v4 := Tryd.zeroValue4 }
open Go.RowKit Go.Lib in
theorem Tryd.strings_shouldUseASCIISet (n : Int) (w : World) :
    Calls Tryd.prog 44 #[.int .i64 n] w fun e w' => e = .returned (.bool (decide (8 < n))) ∧ w' = w := Any.strings_shouldUseASCIISet Tryd.lays226 n w
def Tryd.lays153_ren : Go.Shelf.Ren := ⟨fun | 153 => 27 | 152 => 43 | 226 => 44 | 227 => 38 | 228 => 45 | 137 => 56 | 119 => 57 | 224 => 58 | 225 => 59 | 217 => 65 | 266 => 68 | n => n, fun | 9 => 9 | 3 => 3 | 4 => 4 | 5 => 5 | 21 => 21 | 117 => 68 | 116 => 67 | 0 => 0 | 46 => 52 | 124 => 71 | n => n, fun | n => n⟩
theorem Tryd.lays153 : Go.Proofs.Lays.n153 Tryd.prog Tryd.lays153_ren := {
  mixed := by kernel_rfl
  f119 := Tryd.func57.trans (congrArg some (by kernel_rfl))
  f137 := Tryd.func56.trans (congrArg some (by kernel_rfl))
  f152 := Tryd.func43.trans (congrArg some (by kernel_rfl))
  f153 := Tryd.func27.trans (congrArg some (by kernel_rfl))
  f217 := Tryd.func65.trans (congrArg some (by kernel_rfl))
  f224 := Tryd.func58.trans (congrArg some (by kernel_rfl))
  f225 := Tryd.func59.trans (congrArg some (by kernel_rfl))
  f226 := Tryd.func44.trans (congrArg some (by kernel_rfl))
  f227 := Tryd.func38.trans (congrArg some (by kernel_rfl))
  f228 := Tryd.func45.trans (congrArg some (by kernel_rfl))
  f266 := Tryd.func68.trans (congrArg some (by kernel_rfl))
  t0 := Tryd.underlying0
  a0 := Tryd.isAgg0
  z0 := Tryd.sizeOf0
  v0 := Tryd.zeroValue0
  t3 := Tryd.underlying3
  a3 := Tryd.isAgg3
  z3 := Tryd.sizeOf3
  v3 := Tryd.zeroValue3
  t4 := Tryd.underlying4
  a4 := Tryd.isAgg4
  z4 := Tryd.sizeOf4
  v4 := Tryd.zeroValue4
  t5 := Tryd.underlying5
  a5 := Tryd.isAgg5
  z5 := Tryd.sizeOf5
  v5 := Tryd.zeroValue5
  t9 := Tryd.underlying9
  a9 := Tryd.isAgg9
  z9 := Tryd.sizeOf9
  v9 := Tryd.zeroValue9
  t21 := Tryd.underlying21
  a21 := Tryd.isAgg21
  z21 := Tryd.sizeOf21
  v21 := Tryd.zeroValue21
  t46 := Tryd.underlying52
  a46 := Tryd.isAgg52
  z46 := Tryd.sizeOf52
  v46 := Tryd.zeroValue52
  t116 := Tryd.underlying67
  a116 := Tryd.isAgg67
  z116 := Tryd.sizeOf67
  t117 := Tryd.underlying68
  a117 := Tryd.isAgg68
  z117 := Tryd.sizeOf68
  v117 := Tryd.zeroValue68
  t124 := Tryd.underlying71
  a124 := Tryd.isAgg71
  z124 := Tryd.sizeOf71
  v124 := Tryd.zeroValue71 }
open Go.RowKit Go.Lib in
theorem Tryd.strings_IndexAny_long (hv116 : ∀ w, (zeroValue 67).run Tryd.prog w = .ok (.agg (Array.replicate 256 (.bool false))) w) (s chars : ByteArray) (w : World) (h2 : 2 ≤ chars.size) (h8 : 8 < s.size) (hs : s.size < 4294967281) (hcs : chars.size < 4294967281) (hascii : ∀ (j : Nat) b, chars.data.toList[j]? = some b → b.toNat < 128) :
    Calls Tryd.prog 27 #[.string s, .string chars] w fun e w' => e = .returned (.int .i64 (Lib.indexAny s.data.toList chars.data.toList)) ∧ w' = ((w.alloc (.cells (Lib.setCells chars.data.toList) 67)).alloc (.cells (Lib.setCells chars.data.toList) 67)) := Any.strings_IndexAny_long Tryd.lays153 hv116 (by kernel_rfl) s chars w h2 h8 hs hcs hascii
def Tryd.lays105_ren : Go.Shelf.Ren := ⟨fun | 105 => 23 | 212 => 32 | 99 => 26 | 165 => 33 | 166 => 34 | 170 => 35 | 169 => 36 | 263 => 47 | 264 => 48 | 206 => 42 | 240 => 49 | 241 => 50 | 276 => 61 | 277 => 62 | n => n, fun | 9 => 9 | 3 => 3 | 4 => 4 | 20 => 20 | 0 => 0 | 46 => 52 | 109 => 53 | 5 => 5 | 72 => 57 | 76 => 61 | 51 => 74 | 146 => 75 | 53 => 77 | 148 => 78 | 70 => 55 | 37 => 38 | 75 => 60 | 127 => 80 | 164 => 87 | 80 => 64 | n => n, fun | n => n⟩
theorem Tryd.lays105 : Go.Proofs.Lays.n105 Tryd.prog Tryd.lays105_ren := {
  mixed := by kernel_rfl
  f99 := Tryd.func26.trans (congrArg some (by kernel_rfl))
  f105 := Tryd.func23.trans (congrArg some (by kernel_rfl))
  f165 := Tryd.func33.trans (congrArg some (by kernel_rfl))
  f166 := Tryd.func34.trans (congrArg some (by kernel_rfl))
  f169 := Tryd.func36.trans (congrArg some (by kernel_rfl))
  f170 := Tryd.func35.trans (congrArg some (by kernel_rfl))
  f206 := Tryd.func42.trans (congrArg some (by kernel_rfl))
  f212 := Tryd.func32.trans (congrArg some (by kernel_rfl))
  f240 := Tryd.func49.trans (congrArg some (by kernel_rfl))
  f241 := Tryd.func50.trans (congrArg some (by kernel_rfl))
  f263 := Tryd.func47.trans (congrArg some (by kernel_rfl))
  f264 := Tryd.func48.trans (congrArg some (by kernel_rfl))
  f276 := Tryd.func61.trans (congrArg some (by kernel_rfl))
  f277 := Tryd.func62.trans (congrArg some (by kernel_rfl))
  t0 := Tryd.underlying0
  a0 := Tryd.isAgg0
  z0 := Tryd.sizeOf0
  v0 := Tryd.zeroValue0
  t3 := Tryd.underlying3
  a3 := Tryd.isAgg3
  z3 := Tryd.sizeOf3
  v3 := Tryd.zeroValue3
  t4 := Tryd.underlying4
  a4 := Tryd.isAgg4
  z4 := Tryd.sizeOf4
  v4 := Tryd.zeroValue4
  t5 := Tryd.underlying5
  a5 := Tryd.isAgg5
  z5 := Tryd.sizeOf5
  v5 := Tryd.zeroValue5
  t9 := Tryd.underlying9
  a9 := Tryd.isAgg9
  z9 := Tryd.sizeOf9
  v9 := Tryd.zeroValue9
  t20 := Tryd.underlying20
  a20 := Tryd.isAgg20
  z20 := Tryd.sizeOf20
  v20 := Tryd.zeroValue20
  t37 := Tryd.underlying38
  a37 := Tryd.isAgg38
  z37 := Tryd.sizeOf38
  v37 := Tryd.zeroValue38
  t46 := Tryd.underlying52
  a46 := Tryd.isAgg52
  z46 := Tryd.sizeOf52
  v46 := Tryd.zeroValue52
  t51 := Tryd.underlying74
  a51 := Tryd.isAgg74
  z51 := Tryd.sizeOf74
  v51 := Tryd.zeroValue74
  t53 := Tryd.underlying77
  a53 := Tryd.isAgg77
  z53 := Tryd.sizeOf77
  v53 := Tryd.zeroValue77
  t70 := Tryd.underlying55
  a70 := Tryd.isAgg55
  z70 := Tryd.sizeOf55
  v70 := Tryd.zeroValue55
  t72 := Tryd.underlying57
  a72 := Tryd.isAgg57
  z72 := Tryd.sizeOf57
  v72 := Tryd.zeroValue57
  t75 := Tryd.underlying60
  a75 := Tryd.isAgg60
  z75 := Tryd.sizeOf60
  v75 := Tryd.zeroValue60
  t76 := Tryd.underlying61
  a76 := Tryd.isAgg61
  z76 := Tryd.sizeOf61
  v76 := Tryd.zeroValue61
  t109 := Tryd.underlying53
  a109 := Tryd.isAgg53
  z109 := Tryd.sizeOf53
  v109 := Tryd.zeroValue53
  t127 := Tryd.underlying80
  a127 := Tryd.isAgg80
  z127 := Tryd.sizeOf80
  v127 := Tryd.zeroValue80
  t146 := Tryd.underlying75
  a146 := Tryd.isAgg75
  z146 := Tryd.sizeOf75
  v146 := Tryd.zeroValue75
  t148 := Tryd.underlying78
  a148 := Tryd.isAgg78
  z148 := Tryd.sizeOf78
  v148 := Tryd.zeroValue78
  t164 := Tryd.underlying87
  a164 := Tryd.isAgg87
  z164 := Tryd.sizeOf87
  v164 := Tryd.zeroValue87 }
theorem Tryd.Builder_Extra_105 : Builder.Extra Tryd.prog Tryd.lays105_ren := {
  sizeBuilder := by kernel_rfl
  liesBuilder := by kernel_rfl
  t5 := Tryd.underlying5
  a5 := Tryd.isAgg5
  z5 := Tryd.sizeOf5
  v5 := Tryd.zeroValue5
  infoByte := by kernel_rfl
  cellsByte := by kernel_rfl
  sizeByte := by kernel_rfl
  neB5 := by decide }
open Go.RowKit Go.Lib in
/-- **strings.Repeat: count ≥ 0, the result within one allocation: count copies of s.** (LAID: no walk: one application.) -/
theorem Tryd.strings_Repeat (s : ByteArray) (c : Nat) (w : World) (hc : c ≤ 9223372036854775807) (hlen : s.size * c ≤ 140737488355328) :
    Calls Tryd.prog 23 #[.string s, .int .i64 c] w fun e w' => e = .returned (.string ⟨(Lib.repeatL s.data.toList c).toArray⟩) ∧ Below w.heap.size w w' := Any.strings_Repeat Tryd.lays105 Tryd.Builder_Extra_105 s c w hc hlen
open Go.RowKit Go.Lib in
theorem Tryd.strings_Trim_laid (s cutset : ByteArray) (w : World) (hs : s.size ≤ 9223372036854775807) (hcs : cutset.size < 4294967281) (hascii : ∀ (j : Nat) b, cutset.data.toList[j]? = some b → b.toNat < 128) :
    Calls Tryd.prog 41 #[.string s, .string cutset] w fun e w' => e = .returned (.string ⟨(Lib.trimS s.data.toList cutset.data.toList).toArray⟩) ∧ Below w.heap.size w w' := Any.strings_Trim_laid Tryd.lays160 (by kernel_rfl) s cutset w hs hcs hascii
end Go.Proofs
