/-
  DERIVED: THE SHELF's CONTRACTS AT THIS DUMP, IN PLAIN WORDS (tools/lay-plain.mjs out of 'YtcpfooceadgccaaDoorShelfT.lean', which tools/lay-shelf.mjs wrote): THE SAME DECLARATIONS UNDER THE SAME NAMES: 'import', 'namespace', 'open', 'def', 'theorem' AND NOTHING ELSE: no command of the shelf's: FOR A HAND-IN. Each laying: the table of numbers ('.._ren') and one theorem, a field a fact of the dump's own or the kernel's comparison; each contract: ONE APPLICATION.
-/
import Derived.Ground.SlbCloneProg
import Derived.Shelf.Bits.Mul64
import Derived.Shelf.Bytes.SlClone
import Derived.Shelf.Small.Strs
import Derived.Shelf.Small.Utf8
import Derived.Shelf.Small.Wraps
import Derived.Shelf.Strings.AsciiSet
import Derived.Shelf.Strings.Builder1
import Derived.Shelf.Strings.Builder2
import Derived.Shelf.Strings.BuilderF
import Derived.Shelf.Strings.Prefix
import Derived.Shelf.Strings.Repeat
import Derived.Shelf.Strings.Runes
import Derived.Shelf.Strings.Search1
import Derived.Shelf.Strings.Trim
import Derived.Shelf.Unicode.DecodeSlow
import Derived.Shelf.Strings.SlTrimAscii
import Derived.Ground.NamesProg
import Derived.Test.YtcpfooceadgccaaDoorProg
namespace Go.Proofs
open Go.Shelf
def Tryd.lays161_ren : Go.Shelf.Ren := ⟨fun | 161 => 47 | 231 => 59 | 227 => 61 | 233 => 62 | 235 => 64 | 228 => 80 | 197 => 81 | 151 => 82 | 260 => 91 | 152 => 92 | 137 => 97 | 119 => 98 | 224 => 99 | 225 => 100 | 217 => 101 | 266 => 102 | n => n, fun | 9 => 9 | 4 => 4 | 3 => 3 | 5 => 5 | 117 => 86 | 116 => 85 | 0 => 0 | 124 => 89 | 105 => 106 | 21 => 21 | 119 => 119 | 46 => 90 | 139 => 122 | 138 => 121 | n => n, fun | 3 => 1 | 4 => 2 | n => n⟩
theorem Tryd.lays161 : Go.Proofs.Lays.n161 Tryd.prog Tryd.lays161_ren := {
  mixed := by kernel_rfl
  f119 := Tryd.func98.trans (congrArg some (by kernel_rfl))
  f137 := Tryd.func97.trans (congrArg some (by kernel_rfl))
  f151 := Tryd.func82.trans (congrArg some (by kernel_rfl))
  f152 := Tryd.func92.trans (congrArg some (by kernel_rfl))
  f161 := Tryd.func47.trans (congrArg some (by kernel_rfl))
  f197 := Tryd.func81.trans (congrArg some (by kernel_rfl))
  f217 := Tryd.func101.trans (congrArg some (by kernel_rfl))
  f224 := Tryd.func99.trans (congrArg some (by kernel_rfl))
  f225 := Tryd.func100.trans (congrArg some (by kernel_rfl))
  f227 := Tryd.func61.trans (congrArg some (by kernel_rfl))
  f228 := Tryd.func80.trans (congrArg some (by kernel_rfl))
  f231 := Tryd.func59.trans (congrArg some (by kernel_rfl))
  f233 := Tryd.func62.trans (congrArg some (by kernel_rfl))
  f235 := Tryd.func64.trans (congrArg some (by kernel_rfl))
  f260 := Tryd.func91.trans (congrArg some (by kernel_rfl))
  f266 := Tryd.func102.trans (congrArg some (by kernel_rfl))
  t0 := Tryd.underlying0
  a0 := Tryd.isAgg0
  z0 := Tryd.sizeOf0
  v0 := Tryd.zeroValue0
  t3 := Tryd.underlying3
  a3 := Tryd.isAgg3
  z3 := Tryd.sizeOf3
  v3 := Tryd.zeroValue3
  t4 := Tryd.underlying4
  a4 := Tryd.isAgg4
  z4 := Tryd.sizeOf4
  v4 := Tryd.zeroValue4
  t5 := Tryd.underlying5
  a5 := Tryd.isAgg5
  z5 := Tryd.sizeOf5
  v5 := Tryd.zeroValue5
  t9 := Tryd.underlying9
  a9 := Tryd.isAgg9
  z9 := Tryd.sizeOf9
  v9 := Tryd.zeroValue9
  t21 := Tryd.underlying21
  a21 := Tryd.isAgg21
  z21 := Tryd.sizeOf21
  v21 := Tryd.zeroValue21
  t46 := Tryd.underlying90
  a46 := Tryd.isAgg90
  z46 := Tryd.sizeOf90
  v46 := Tryd.zeroValue90
  t105 := Tryd.underlying106
  a105 := Tryd.isAgg106
  z105 := Tryd.sizeOf106
  v105 := Tryd.zeroValue106
  t116 := Tryd.underlying85
  a116 := Tryd.isAgg85
  z116 := Tryd.sizeOf85
  t117 := Tryd.underlying86
  a117 := Tryd.isAgg86
  z117 := Tryd.sizeOf86
  v117 := Tryd.zeroValue86
  t119 := Tryd.underlying119
  a119 := Tryd.isAgg119
  z119 := Tryd.sizeOf119
  t124 := Tryd.underlying89
  a124 := Tryd.isAgg89
  z124 := Tryd.sizeOf89
  v124 := Tryd.zeroValue89
  t138 := Tryd.underlying121
  a138 := Tryd.isAgg121
  z138 := Tryd.sizeOf121
  v138 := Tryd.zeroValue121
  t139 := Tryd.underlying122
  a139 := Tryd.isAgg122
  z139 := Tryd.sizeOf122
  v139 := Tryd.zeroValue122
  g3 := by kernel_rfl
  g4 := by kernel_rfl }
open Go.RowKit in
/-- strings.TrimLeft: "TrimLeft returns a slice of the string s with all leading Unicode code points contained in cutset removed.": AT A cutset OF ONE ASCII BYTE. The world is as it was. (LAID: no walk: one application.) -/
theorem Tryd.strings_TrimLeft_one (s : ByteArray) (c : UInt8) (hc : c.toNat < 128) (w : World) :
    Calls Tryd.prog 47 #[.string s, .string ⟨#[c]⟩] w fun e w' => e = .returned (.string ⟨(Lib.trimLeftB s.data.toList c).toArray⟩) ∧ w' = w := Any.strings_TrimLeft_one Tryd.lays161 s c hc w
def Tryd.lays160_ren : Go.Shelf.Ren := ⟨fun | 160 => 41 | 232 => 60 | 231 => 59 | 227 => 61 | 234 => 63 | 233 => 62 | 236 => 65 | 235 => 64 | 228 => 80 | 271 => 83 | 151 => 82 | 197 => 81 | 120 => 93 | 152 => 92 | 260 => 91 | 137 => 97 | 119 => 98 | 224 => 99 | 225 => 100 | 217 => 101 | 266 => 102 | n => n, fun | 9 => 9 | 4 => 4 | 3 => 3 | 5 => 5 | 117 => 86 | 116 => 85 | 0 => 0 | 124 => 89 | 21 => 21 | 105 => 106 | 46 => 90 | 119 => 119 | 139 => 122 | 138 => 121 | n => n, fun | 3 => 1 | 4 => 2 | n => n⟩
theorem Tryd.lays160 : Go.Proofs.Lays.n160 Tryd.prog Tryd.lays160_ren := {
  mixed := by kernel_rfl
  f119 := Tryd.func98.trans (congrArg some (by kernel_rfl))
  f120 := Tryd.func93.trans (congrArg some (by kernel_rfl))
  f137 := Tryd.func97.trans (congrArg some (by kernel_rfl))
  f151 := Tryd.func82.trans (congrArg some (by kernel_rfl))
  f152 := Tryd.func92.trans (congrArg some (by kernel_rfl))
  f160 := Tryd.func41.trans (congrArg some (by kernel_rfl))
  f197 := Tryd.func81.trans (congrArg some (by kernel_rfl))
  f217 := Tryd.func101.trans (congrArg some (by kernel_rfl))
  f224 := Tryd.func99.trans (congrArg some (by kernel_rfl))
  f225 := Tryd.func100.trans (congrArg some (by kernel_rfl))
  f227 := Tryd.func61.trans (congrArg some (by kernel_rfl))
  f228 := Tryd.func80.trans (congrArg some (by kernel_rfl))
  f231 := Tryd.func59.trans (congrArg some (by kernel_rfl))
  f232 := Tryd.func60.trans (congrArg some (by kernel_rfl))
  f233 := Tryd.func62.trans (congrArg some (by kernel_rfl))
  f234 := Tryd.func63.trans (congrArg some (by kernel_rfl))
  f235 := Tryd.func64.trans (congrArg some (by kernel_rfl))
  f236 := Tryd.func65.trans (congrArg some (by kernel_rfl))
  f260 := Tryd.func91.trans (congrArg some (by kernel_rfl))
  f266 := Tryd.func102.trans (congrArg some (by kernel_rfl))
  f271 := Tryd.func83.trans (congrArg some (by kernel_rfl))
  t0 := Tryd.underlying0
  a0 := Tryd.isAgg0
  z0 := Tryd.sizeOf0
  v0 := Tryd.zeroValue0
  t3 := Tryd.underlying3
  a3 := Tryd.isAgg3
  z3 := Tryd.sizeOf3
  v3 := Tryd.zeroValue3
  t4 := Tryd.underlying4
  a4 := Tryd.isAgg4
  z4 := Tryd.sizeOf4
  v4 := Tryd.zeroValue4
  t5 := Tryd.underlying5
  a5 := Tryd.isAgg5
  z5 := Tryd.sizeOf5
  v5 := Tryd.zeroValue5
  t9 := Tryd.underlying9
  a9 := Tryd.isAgg9
  z9 := Tryd.sizeOf9
  v9 := Tryd.zeroValue9
  t21 := Tryd.underlying21
  a21 := Tryd.isAgg21
  z21 := Tryd.sizeOf21
  v21 := Tryd.zeroValue21
  t46 := Tryd.underlying90
  a46 := Tryd.isAgg90
  z46 := Tryd.sizeOf90
  v46 := Tryd.zeroValue90
  t105 := Tryd.underlying106
  a105 := Tryd.isAgg106
  z105 := Tryd.sizeOf106
  v105 := Tryd.zeroValue106
  t116 := Tryd.underlying85
  a116 := Tryd.isAgg85
  z116 := Tryd.sizeOf85
  t117 := Tryd.underlying86
  a117 := Tryd.isAgg86
  z117 := Tryd.sizeOf86
  v117 := Tryd.zeroValue86
  t119 := Tryd.underlying119
  a119 := Tryd.isAgg119
  z119 := Tryd.sizeOf119
  t124 := Tryd.underlying89
  a124 := Tryd.isAgg89
  z124 := Tryd.sizeOf89
  v124 := Tryd.zeroValue89
  t138 := Tryd.underlying121
  a138 := Tryd.isAgg121
  z138 := Tryd.sizeOf121
  v138 := Tryd.zeroValue121
  t139 := Tryd.underlying122
  a139 := Tryd.isAgg122
  z139 := Tryd.sizeOf122
  v139 := Tryd.zeroValue122
  g3 := by kernel_rfl
  g4 := by kernel_rfl }
open Go.RowKit in
/-- strings.Trim: "Trim returns a slice of the string s with all leading and trailing Unicode code points contained in cutset removed.": AT A cutset OF ONE ASCII BYTE. THE WORLD BEHIND IT: as it was, or (where s is not empty) with ONE DRAW MORE off the tape: the statement 'return trimLeftByte(trimRightByte(s, c), c)' draws its order of evaluation. (LAID: no walk: one application.) -/
theorem Tryd.strings_Trim_one (s : ByteArray) (c : UInt8) (hc : c.toNat < 128) (w : World) (hs : s.size ≤ 9223372036854775807) :
    Calls Tryd.prog 41 #[.string s, .string ⟨#[c]⟩] w fun e w' => e = .returned (.string ⟨(Lib.trimB s.data.toList c).toArray⟩) ∧ (w' = w ∨ w' = w.drew) := Any.strings_Trim_one Tryd.lays160 s c hc w hs
def Tryd.lays106_ren : Go.Shelf.Ren := ⟨fun | 106 => 74 | 213 => 90 | 265 => 96 | n => n, fun | 9 => 9 | 3 => 3 | n => n, fun | n => n⟩
theorem Tryd.lays106 : Go.Proofs.Lays.n106 Tryd.prog Tryd.lays106_ren := {
  mixed := by kernel_rfl
  f106 := Tryd.func74.trans (congrArg some (by kernel_rfl))
  f213 := Tryd.func90.trans (congrArg some (by kernel_rfl))
  f265 := Tryd.func96.trans (congrArg some (by kernel_rfl))
  t3 := Tryd.underlying3
  a3 := Tryd.isAgg3
  z3 := Tryd.sizeOf3
  v3 := Tryd.zeroValue3
  t9 := Tryd.underlying9
  a9 := Tryd.isAgg9
  z9 := Tryd.sizeOf9
  v9 := Tryd.zeroValue9 }
open Go.RowKit in
/-- strings.Compare: "Compare returns an integer comparing two strings lexicographically. The result will be 0 if a == b, -1 if a < b, and +1 if a > b.": IT RETURNS 'Lib.compareBytes a b'; the world is as it was. (LAID: no walk: one application.) -/
theorem Tryd.strings_Compare (a b : ByteArray) (w : World) :
    Calls Tryd.prog 74 #[.string a, .string b] w fun e w' => e = .returned (.int .i64 (Lib.compareBytes a.data.toList b.data.toList)) ∧ w' = w := Any.strings_Compare Tryd.lays106 a b w
def Tryd.lays137_ren : Go.Shelf.Ren := ⟨fun | 137 => 97 | 217 => 101 | 266 => 102 | n => n, fun | 9 => 9 | 5 => 5 | 3 => 3 | n => n, fun | n => n⟩
theorem Tryd.lays137 : Go.Proofs.Lays.n137 Tryd.prog Tryd.lays137_ren := {
  mixed := by kernel_rfl
  f137 := Tryd.func97.trans (congrArg some (by kernel_rfl))
  f217 := Tryd.func101.trans (congrArg some (by kernel_rfl))
  f266 := Tryd.func102.trans (congrArg some (by kernel_rfl))
  t3 := Tryd.underlying3
  a3 := Tryd.isAgg3
  z3 := Tryd.sizeOf3
  v3 := Tryd.zeroValue3
  t5 := Tryd.underlying5
  a5 := Tryd.isAgg5
  z5 := Tryd.sizeOf5
  v5 := Tryd.zeroValue5
  t9 := Tryd.underlying9
  a9 := Tryd.isAgg9
  z9 := Tryd.sizeOf9
  v9 := Tryd.zeroValue9 }
open Go.RowKit in
/-- strings.IndexByte: "IndexByte returns the index of the first instance of c in s, or -1 if c is not present in s.": IT RETURNS 'Lib.indexByte s c'; the world is as it was. (LAID: no walk: one application.) -/
theorem Tryd.strings_IndexByte (s : ByteArray) (c : Int) (w : World) :
    Calls Tryd.prog 97 #[.string s, .int .u8 c] w fun e w' => e = .returned (.int .i64 (Lib.indexByte s.data.toList c.toNat.toUInt8)) ∧ w' = w := Any.strings_IndexByte Tryd.lays137 s c w
def Tryd.lays103_ren : Go.Shelf.Ren := ⟨fun | 103 => 42 | 210 => 66 | 206 => 84 | n => n, fun | 9 => 9 | 4 => 4 | 24 => 60 | 3 => 3 | n => n, fun | n => n⟩
theorem Tryd.lays103 : Go.Proofs.Lays.n103 Tryd.prog Tryd.lays103_ren := {
  mixed := by kernel_rfl
  f103 := Tryd.func42.trans (congrArg some (by kernel_rfl))
  f206 := Tryd.func84.trans (congrArg some (by kernel_rfl))
  f210 := Tryd.func66.trans (congrArg some (by kernel_rfl))
  t3 := Tryd.underlying3
  a3 := Tryd.isAgg3
  z3 := Tryd.sizeOf3
  v3 := Tryd.zeroValue3
  t4 := Tryd.underlying4
  a4 := Tryd.isAgg4
  z4 := Tryd.sizeOf4
  v4 := Tryd.zeroValue4
  t9 := Tryd.underlying9
  a9 := Tryd.isAgg9
  z9 := Tryd.sizeOf9
  v9 := Tryd.zeroValue9
  t24 := Tryd.underlying60
  a24 := Tryd.isAgg60
  z24 := Tryd.sizeOf60
  v24 := Tryd.zeroValue60 }
open Go.RowKit in
/-- strings.CutPrefix: "CutPrefix returns s without the provided leading prefix string and reports whether it found the prefix. If s doesn't start with prefix, CutPrefix returns s, false. If prefix is the empty string, CutPrefix returns s, true.": IT RETURNS '(Lib.trimPrefix s p, Lib.hasPrefix s p)'; the world is as it was. (LAID: no walk: one application.) -/
theorem Tryd.strings_CutPrefix (s p : ByteArray) (w : World) :
    Calls Tryd.prog 42 #[.string s, .string p] w fun e w' => e = .returned (.tuple #[.string ⟨(Lib.trimPrefix s.data.toList p.data.toList).toArray⟩, .bool (Lib.hasPrefix s.data.toList p.data.toList)]) ∧ w' = w := Any.strings_CutPrefix Tryd.lays103 s p w
def Tryd.lays101_ren : Go.Shelf.Ren := ⟨fun | 101 => 67 | 208 => 85 | 206 => 84 | n => n, fun | 9 => 9 | 4 => 4 | 3 => 3 | n => n, fun | n => n⟩
theorem Tryd.lays101 : Go.Proofs.Lays.n101 Tryd.prog Tryd.lays101_ren := {
  mixed := by kernel_rfl
  f101 := Tryd.func67.trans (congrArg some (by kernel_rfl))
  f206 := Tryd.func84.trans (congrArg some (by kernel_rfl))
  f208 := Tryd.func85.trans (congrArg some (by kernel_rfl))
  t3 := Tryd.underlying3
  a3 := Tryd.isAgg3
  z3 := Tryd.sizeOf3
  v3 := Tryd.zeroValue3
  t4 := Tryd.underlying4
  a4 := Tryd.isAgg4
  z4 := Tryd.sizeOf4
  v4 := Tryd.zeroValue4
  t9 := Tryd.underlying9
  a9 := Tryd.isAgg9
  z9 := Tryd.sizeOf9
  v9 := Tryd.zeroValue9 }
open Go.RowKit Go.Lib in
/-- strings.TrimPrefix: "TrimPrefix returns s without the provided leading prefix string. If s doesn't start with prefix, s is returned unchanged.": IT RETURNS 'Lib.trimPrefix s prefix'; the world is as it was. (LAID: no walk: one application.) -/
theorem Tryd.strings_TrimPrefix (s p : ByteArray) (w : World) :
    Calls Tryd.prog 67 #[.string s, .string p] w fun e w' => e = .returned (.string ⟨(Lib.trimPrefix s.data.toList p.data.toList).toArray⟩) ∧ w' = w := Any.strings_TrimPrefix Tryd.lays101 s p w
def Tryd.lays105_ren : Go.Shelf.Ren := ⟨fun | 105 => 46 | 212 => 68 | 99 => 69 | 165 => 70 | 166 => 71 | 170 => 72 | 169 => 73 | 263 => 86 | 264 => 87 | 206 => 84 | 240 => 88 | 241 => 89 | 276 => 94 | 277 => 95 | n => n, fun | 9 => 9 | 3 => 3 | 4 => 4 | 20 => 20 | 0 => 0 | 46 => 90 | 109 => 91 | 5 => 5 | 72 => 95 | 76 => 99 | 51 => 109 | 146 => 110 | 53 => 66 | 148 => 112 | 70 => 93 | 37 => 42 | 75 => 98 | 127 => 114 | 164 => 116 | 80 => 50 | n => n, fun | n => n⟩
theorem Tryd.lays105 : Go.Proofs.Lays.n105 Tryd.prog Tryd.lays105_ren := {
  mixed := by kernel_rfl
  f99 := Tryd.func69.trans (congrArg some (by kernel_rfl))
  f105 := Tryd.func46.trans (congrArg some (by kernel_rfl))
  f165 := Tryd.func70.trans (congrArg some (by kernel_rfl))
  f166 := Tryd.func71.trans (congrArg some (by kernel_rfl))
  f169 := Tryd.func73.trans (congrArg some (by kernel_rfl))
  f170 := Tryd.func72.trans (congrArg some (by kernel_rfl))
  f206 := Tryd.func84.trans (congrArg some (by kernel_rfl))
  f212 := Tryd.func68.trans (congrArg some (by kernel_rfl))
  f240 := Tryd.func88.trans (congrArg some (by kernel_rfl))
  f241 := Tryd.func89.trans (congrArg some (by kernel_rfl))
  f263 := Tryd.func86.trans (congrArg some (by kernel_rfl))
  f264 := Tryd.func87.trans (congrArg some (by kernel_rfl))
  f276 := Tryd.func94.trans (congrArg some (by kernel_rfl))
  f277 := Tryd.func95.trans (congrArg some (by kernel_rfl))
  t0 := Tryd.underlying0
  a0 := Tryd.isAgg0
  z0 := Tryd.sizeOf0
  v0 := Tryd.zeroValue0
  t3 := Tryd.underlying3
  a3 := Tryd.isAgg3
  z3 := Tryd.sizeOf3
  v3 := Tryd.zeroValue3
  t4 := Tryd.underlying4
  a4 := Tryd.isAgg4
  z4 := Tryd.sizeOf4
  v4 := Tryd.zeroValue4
  t5 := Tryd.underlying5
  a5 := Tryd.isAgg5
  z5 := Tryd.sizeOf5
  v5 := Tryd.zeroValue5
  t9 := Tryd.underlying9
  a9 := Tryd.isAgg9
  z9 := Tryd.sizeOf9
  v9 := Tryd.zeroValue9
  t20 := Tryd.underlying20
  a20 := Tryd.isAgg20
  z20 := Tryd.sizeOf20
  v20 := Tryd.zeroValue20
  t37 := Tryd.underlying42
  a37 := Tryd.isAgg42
  z37 := Tryd.sizeOf42
  v37 := Tryd.zeroValue42
  t46 := Tryd.underlying90
  a46 := Tryd.isAgg90
  z46 := Tryd.sizeOf90
  v46 := Tryd.zeroValue90
  t51 := Tryd.underlying109
  a51 := Tryd.isAgg109
  z51 := Tryd.sizeOf109
  v51 := Tryd.zeroValue109
  t53 := Tryd.underlying66
  a53 := Tryd.isAgg66
  z53 := Tryd.sizeOf66
  v53 := Tryd.zeroValue66
  t70 := Tryd.underlying93
  a70 := Tryd.isAgg93
  z70 := Tryd.sizeOf93
  v70 := Tryd.zeroValue93
  t72 := Tryd.underlying95
  a72 := Tryd.isAgg95
  z72 := Tryd.sizeOf95
  v72 := Tryd.zeroValue95
  t75 := Tryd.underlying98
  a75 := Tryd.isAgg98
  z75 := Tryd.sizeOf98
  v75 := Tryd.zeroValue98
  t76 := Tryd.underlying99
  a76 := Tryd.isAgg99
  z76 := Tryd.sizeOf99
  v76 := Tryd.zeroValue99
  t109 := Tryd.underlying91
  a109 := Tryd.isAgg91
  z109 := Tryd.sizeOf91
  v109 := Tryd.zeroValue91
  t127 := Tryd.underlying114
  a127 := Tryd.isAgg114
  z127 := Tryd.sizeOf114
  v127 := Tryd.zeroValue114
  t146 := Tryd.underlying110
  a146 := Tryd.isAgg110
  z146 := Tryd.sizeOf110
  v146 := Tryd.zeroValue110
  t148 := Tryd.underlying112
  a148 := Tryd.isAgg112
  z148 := Tryd.sizeOf112
  v148 := Tryd.zeroValue112
  t164 := Tryd.underlying116
  a164 := Tryd.isAgg116
  z164 := Tryd.sizeOf116
  v164 := Tryd.zeroValue116 }
theorem Tryd.Builder_Extra_105 : Builder.Extra Tryd.prog Tryd.lays105_ren := {
  sizeBuilder := by kernel_rfl
  liesBuilder := by kernel_rfl
  t5 := Tryd.underlying5
  a5 := Tryd.isAgg5
  z5 := Tryd.sizeOf5
  v5 := Tryd.zeroValue5
  infoByte := by kernel_rfl
  cellsByte := by kernel_rfl
  sizeByte := by kernel_rfl
  neB5 := by decide }
open Go.RowKit Go.Lib in
/-- THE MAIN CASE: at least two copies of a string that is not empty. (LAID: no walk: one application.) -/
theorem Tryd.strings_Repeat_main (s : ByteArray) (c : Nat) (w : World) (hc2 : 2 ≤ c) (hc : c ≤ 9223372036854775807) (hlen : s.size * c ≤ 140737488355328) (h0 : 0 < s.size) :
    Calls Tryd.prog 46 #[.string s, .int .i64 c] w fun e w' => e = .returned (.string ⟨(Lib.repeatL s.data.toList c).toArray⟩) ∧ Below w.heap.size w w' := Any.strings_Repeat_main Tryd.lays105 Tryd.Builder_Extra_105 s c w hc2 hc hlen h0
open Go.RowKit Go.Lib in
theorem Tryd.strings_Repeat_zero (s : ByteArray) (w : World) :
    Calls Tryd.prog 46 #[.string s, .int .i64 0] w fun e w' => e = .returned (.string ⟨#[]⟩) ∧ w' = w := Any.strings_Repeat_zero Tryd.lays105 s w
open Go.RowKit Go.Lib in
theorem Tryd.strings_Repeat_one (s : ByteArray) (w : World) :
    Calls Tryd.prog 46 #[.string s, .int .i64 1] w fun e w' => e = .returned (.string s) ∧ w' = w := Any.strings_Repeat_one Tryd.lays105 s w
open Go.RowKit Go.Lib in
/-- Copies of the empty string. (LAID: no walk: one application.) -/
theorem Tryd.strings_Repeat_empty (s : ByteArray) (c : Nat) (w : World) (hc2 : 2 ≤ c) (hc : c ≤ 9223372036854775807) (h0 : s.size = 0) :
    Calls Tryd.prog 46 #[.string s, .int .i64 c] w fun e w' => e = .returned (.string ⟨#[]⟩) ∧ w' = w := Any.strings_Repeat_empty Tryd.lays105 s c w hc2 hc h0
open Go.RowKit Go.Lib in
/-- count < 0: "It panics if count is negative". (LAID: no walk: one application.) -/
theorem Tryd.strings_Repeat_negative (s : ByteArray) (c : Int) (w : World) (hc : c < 0) :
    Calls Tryd.prog 46 #[.string s, .int .i64 c] w fun e w' => e = .panicked [{ v := repeatPanic Tryd.lays105_ren "strings: negative Repeat count", recovered := false }] ∧ w' = w := Any.strings_Repeat_negative Tryd.lays105 s c w hc
open Go.RowKit Go.Lib in
/-- len(s) * count is no int: ".. or if the result of (len(s) * count) overflows". (LAID: no walk: one application.) -/
theorem Tryd.strings_Repeat_overflow (s : ByteArray) (c : Nat) (w : World) (hc : c ≤ 9223372036854775807) (hs : s.size ≤ 9223372036854775807) (hbig : 9223372036854775807 < s.size * c) :
    Calls Tryd.prog 46 #[.string s, .int .i64 c] w fun e w' => e = .panicked [{ v := repeatPanic Tryd.lays105_ren "strings: Repeat output length overflow", recovered := false }] ∧ w' = w := Any.strings_Repeat_overflow Tryd.lays105 s c w hc hs hbig
open Go.RowKit Go.Lib in
/-- **strings.Repeat: count ≥ 0, the result within one allocation: count copies of s.** (LAID: no walk: one application.) -/
theorem Tryd.strings_Repeat (s : ByteArray) (c : Nat) (w : World) (hc : c ≤ 9223372036854775807) (hlen : s.size * c ≤ 140737488355328) :
    Calls Tryd.prog 46 #[.string s, .int .i64 c] w fun e w' => e = .returned (.string ⟨(Lib.repeatL s.data.toList c).toArray⟩) ∧ Below w.heap.size w w' := Any.strings_Repeat Tryd.lays105 Tryd.Builder_Extra_105 s c w hc hlen
def Tryd.laysSlK4_ren : Go.Shelf.Ren := ⟨fun | 4 => 57 | n => n, fun | 22 => 42 | 4 => 4 | 5 => 5 | n => n, fun | n => n⟩
theorem Tryd.laysSlK4 : Go.Proofs.SlLaysK.n4 Tryd.prog Tryd.laysSlK4_ren := {
  mixed := by kernel_rfl
  f4 := Tryd.func57.trans (congrArg some (by kernel_rfl))
  t4 := Tryd.underlying4
  a4 := Tryd.isAgg4
  z4 := Tryd.sizeOf4
  v4 := Tryd.zeroValue4
  t22 := Tryd.underlying42
  a22 := Tryd.isAgg42
  z22 := Tryd.sizeOf42
  v22 := Tryd.zeroValue42
  t5 := Tryd.underlying5
  i5 := by kernel_rfl }
open Go.RowKit Go.Lib in
/-- bytes.Clone: "Clone returns a copy of b[:len(b)]. The result may have additional unused capacity.": OF A SLICE THAT IS NOT nil IT RETURNS A SLICE THAT IS NOT nil, OF THE SAME BYTES, IN MEMORY OF THE CALL's OWN: in the how-to's words (6f): 'w'.ownsRow B e 1 v' n cells' · 'Below B w w'', B the heap's size at the call. b AT WHATEVER ADDRESS, its cells as 'open_ints' hands them ('a.add i'; the numbers 'xs'). No byte: no cell is asked for. (LAID: no walk: one application.) -/
theorem Tryd.bytes_Clone_at (a : Addr) (n c : Nat) (xs : List Int) (w : World) (hx : xs.length = n) (hbig : n ≤ 140737488355328) (hc : ∀ i, i < n → w.cell? (a.add i) = some (.int .u8 (xs.getD i 0))) :
    Calls Tryd.prog 57 #[.slice (some a) n c] w fun e w' => ∃ v', e = .returned v' ∧ w'.ownsRow w.heap.size 5 1 v' n (xs.map (Value.int .u8)) ∧ v' ≠ .slice none 0 0 ∧ Below w.heap.size w w' := Any.bytes_Clone_at Tryd.laysSlK4 a n c xs w hx hbig hc
open Go.RowKit Go.Lib in
/-- "Clone(nil) returns nil.": the world is as it was. (LAID: no walk: one application.) -/
theorem Tryd.bytes_Clone_nil (n c : Nat) (w : World) :
    Calls Tryd.prog 57 #[.slice none n c] w fun e w' => e = .returned (.slice none 0 0) ∧ w' = w := Any.bytes_Clone_nil Tryd.laysSlK4 n c w
end Go.Proofs
