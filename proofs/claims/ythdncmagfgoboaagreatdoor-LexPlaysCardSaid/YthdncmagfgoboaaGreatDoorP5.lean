/- One of the texts that lead to the theorem lexPlays.proved: the conditions stand in each theorem. -/
import Derived.Shelf.Bits.Mul64
import Derived.Shelf.Small.Strs
import Derived.Shelf.Small.Utf8
import Derived.Shelf.Small.Wraps
import Derived.Shelf.Strings.AsciiSet
import Derived.Shelf.Strings.Builder1
import Derived.Shelf.Strings.Builder2
import Derived.Shelf.Strings.BuilderF
import Derived.Shelf.Strings.Prefix
import Derived.Shelf.Strings.Repeat
import Derived.Shelf.Strings.Runes
import Derived.Shelf.Strings.Search1
import Derived.Shelf.Strings.Trim
import Derived.Shelf.Unicode.DecodeSlow
import Derived.Shelf.Strings.SlTrimAscii
import Derived.Ground.NamesProg
import Derived.Test.YthdncmagfgoboaaGreatDoorProg
set_option linter.unusedSimpArgs false
set_option linter.unusedVariables false
namespace Go.Proofs
open Go.Shelf
def Tryz.lays161_ren : Go.Shelf.Ren := ⟨fun | 161 => 118 | 231 => 143 | 227 => 144 | 233 => 145 | 235 => 146 | 228 => 152 | 197 => 153 | 151 => 154 | 260 => 157 | 152 => 158 | 137 => 52 | 119 => 159 | 224 => 160 | 225 => 161 | 217 => 76 | 266 => 103 | n => n, fun | 9 => 9 | 4 => 4 | 3 => 3 | 5 => 5 | 117 => 197 | 116 => 196 | 0 => 0 | 124 => 200 | 105 => 177 | 21 => 21 | 119 => 214 | 46 => 172 | 139 => 217 | 138 => 216 | n => n, fun | 3 => 1 | 4 => 2 | n => n⟩
theorem Tryz.lays161 : Go.Proofs.Lays.n161 Tryz.prog Tryz.lays161_ren := {
 mixed := by kernel_rfl
 f119 := Tryz.func159.trans (congrArg some (by kernel_rfl))
 f137 := Tryz.func52.trans (congrArg some (by kernel_rfl))
 f151 := Tryz.func154.trans (congrArg some (by kernel_rfl))
 f152 := Tryz.func158.trans (congrArg some (by kernel_rfl))
 f161 := Tryz.func118.trans (congrArg some (by kernel_rfl))
 f197 := Tryz.func153.trans (congrArg some (by kernel_rfl))
 f217 := Tryz.func76.trans (congrArg some (by kernel_rfl))
 f224 := Tryz.func160.trans (congrArg some (by kernel_rfl))
 f225 := Tryz.func161.trans (congrArg some (by kernel_rfl))
 f227 := Tryz.func144.trans (congrArg some (by kernel_rfl))
 f228 := Tryz.func152.trans (congrArg some (by kernel_rfl))
 f231 := Tryz.func143.trans (congrArg some (by kernel_rfl))
 f233 := Tryz.func145.trans (congrArg some (by kernel_rfl))
 f235 := Tryz.func146.trans (congrArg some (by kernel_rfl))
 f260 := Tryz.func157.trans (congrArg some (by kernel_rfl))
 f266 := Tryz.func103.trans (congrArg some (by kernel_rfl))
 t0 := Tryz.underlying0
 a0 := Tryz.isAgg0
 z0 := Tryz.sizeOf0
 v0 := Tryz.zeroValue0
 t3 := Tryz.underlying3
 a3 := Tryz.isAgg3
 z3 := Tryz.sizeOf3
 v3 := Tryz.zeroValue3
 t4 := Tryz.underlying4
 a4 := Tryz.isAgg4
 z4 := Tryz.sizeOf4
 v4 := Tryz.zeroValue4
 t5 := Tryz.underlying5
 a5 := Tryz.isAgg5
 z5 := Tryz.sizeOf5
 v5 := Tryz.zeroValue5
 t9 := Tryz.underlying9
 a9 := Tryz.isAgg9
 z9 := Tryz.sizeOf9
 v9 := Tryz.zeroValue9
 t21 := Tryz.underlying21
 a21 := Tryz.isAgg21
 z21 := Tryz.sizeOf21
 v21 := Tryz.zeroValue21
 t46 := Tryz.underlying172
 a46 := Tryz.isAgg172
 z46 := Tryz.sizeOf172
 v46 := Tryz.zeroValue172
 t105 := Tryz.underlying177
 a105 := Tryz.isAgg177
 z105 := Tryz.sizeOf177
 v105 := Tryz.zeroValue177
 t116 := Tryz.underlying196
 a116 := Tryz.isAgg196
 z116 := Tryz.sizeOf196
 t117 := Tryz.underlying197
 a117 := Tryz.isAgg197
 z117 := Tryz.sizeOf197
 v117 := Tryz.zeroValue197
 t119 := Tryz.underlying214
 a119 := Tryz.isAgg214
 z119 := Tryz.sizeOf214
 t124 := Tryz.underlying200
 a124 := Tryz.isAgg200
 z124 := Tryz.sizeOf200
 v124 := Tryz.zeroValue200
 t138 := Tryz.underlying216
 a138 := Tryz.isAgg216
 z138 := Tryz.sizeOf216
 v138 := Tryz.zeroValue216
 t139 := Tryz.underlying217
 a139 := Tryz.isAgg217
 z139 := Tryz.sizeOf217
 v139 := Tryz.zeroValue217
 g3 := by kernel_rfl
 g4 := by kernel_rfl }
open Go.RowKit in
def Tryz.lays137_ren : Go.Shelf.Ren := ⟨fun | 137 => 52 | 217 => 76 | 266 => 103 | n => n, fun | 9 => 9 | 5 => 5 | 3 => 3 | n => n, fun | n => n⟩
theorem Tryz.lays137 : Go.Proofs.Lays.n137 Tryz.prog Tryz.lays137_ren := {
 mixed := by kernel_rfl
 f137 := Tryz.func52.trans (congrArg some (by kernel_rfl))
 f217 := Tryz.func76.trans (congrArg some (by kernel_rfl))
 f266 := Tryz.func103.trans (congrArg some (by kernel_rfl))
 t3 := Tryz.underlying3
 a3 := Tryz.isAgg3
 z3 := Tryz.sizeOf3
 v3 := Tryz.zeroValue3
 t5 := Tryz.underlying5
 a5 := Tryz.isAgg5
 z5 := Tryz.sizeOf5
 v5 := Tryz.zeroValue5
 t9 := Tryz.underlying9
 a9 := Tryz.isAgg9
 z9 := Tryz.sizeOf9
 v9 := Tryz.zeroValue9 }
open Go.RowKit in
theorem Tryz.strings_IndexByte (s : ByteArray) (c : Int) (w : World) :
 Calls Tryz.prog 52 #[.string s, .int .u8 c] w fun e w' => e = .returned (.int .i64 (Lib.indexByte s.data.toList c.toNat.toUInt8)) ∧ w' = w := Any.strings_IndexByte Tryz.lays137 s c w
def Tryz.lays103_ren : Go.Shelf.Ren := ⟨fun | 103 => 89 | 210 => 117 | 206 => 142 | n => n, fun | 9 => 9 | 4 => 4 | 24 => 144 | 3 => 3 | n => n, fun | n => n⟩
theorem Tryz.lays103 : Go.Proofs.Lays.n103 Tryz.prog Tryz.lays103_ren := {
 mixed := by kernel_rfl
 f103 := Tryz.func89.trans (congrArg some (by kernel_rfl))
 f206 := Tryz.func142.trans (congrArg some (by kernel_rfl))
 f210 := Tryz.func117.trans (congrArg some (by kernel_rfl))
 t3 := Tryz.underlying3
 a3 := Tryz.isAgg3
 z3 := Tryz.sizeOf3
 v3 := Tryz.zeroValue3
 t4 := Tryz.underlying4
 a4 := Tryz.isAgg4
 z4 := Tryz.sizeOf4
 v4 := Tryz.zeroValue4
 t9 := Tryz.underlying9
 a9 := Tryz.isAgg9
 z9 := Tryz.sizeOf9
 v9 := Tryz.zeroValue9
 t24 := Tryz.underlying144
 a24 := Tryz.isAgg144
 z24 := Tryz.sizeOf144
 v24 := Tryz.zeroValue144 }
open Go.RowKit in
theorem Tryz.strings_CutPrefix (s p : ByteArray) (w : World) :
 Calls Tryz.prog 89 #[.string s, .string p] w fun e w' => e = .returned (.tuple #[.string ⟨(Lib.trimPrefix s.data.toList p.data.toList).toArray⟩, .bool (Lib.hasPrefix s.data.toList p.data.toList)]) ∧ w' = w := Any.strings_CutPrefix Tryz.lays103 s p w
def Tryz.lays101_ren : Go.Shelf.Ren := ⟨fun | 101 => 119 | 208 => 147 | 206 => 142 | n => n, fun | 9 => 9 | 4 => 4 | 3 => 3 | n => n, fun | n => n⟩
theorem Tryz.lays101 : Go.Proofs.Lays.n101 Tryz.prog Tryz.lays101_ren := {
 mixed := by kernel_rfl
 f101 := Tryz.func119.trans (congrArg some (by kernel_rfl))
 f206 := Tryz.func142.trans (congrArg some (by kernel_rfl))
 f208 := Tryz.func147.trans (congrArg some (by kernel_rfl))
 t3 := Tryz.underlying3
 a3 := Tryz.isAgg3
 z3 := Tryz.sizeOf3
 v3 := Tryz.zeroValue3
 t4 := Tryz.underlying4
 a4 := Tryz.isAgg4
 z4 := Tryz.sizeOf4
 v4 := Tryz.zeroValue4
 t9 := Tryz.underlying9
 a9 := Tryz.isAgg9
 z9 := Tryz.sizeOf9
 v9 := Tryz.zeroValue9 }
open Go.RowKit Go.Lib in
theorem Tryz.strings_TrimPrefix (s p : ByteArray) (w : World) :
 Calls Tryz.prog 119 #[.string s, .string p] w fun e w' => e = .returned (.string ⟨(Lib.trimPrefix s.data.toList p.data.toList).toArray⟩) ∧ w' = w := Any.strings_TrimPrefix Tryz.lays101 s p w
def Tryz.lays105_ren : Go.Shelf.Ren := ⟨fun | 105 => 93 | 212 => 120 | 99 => 121 | 165 => 122 | 166 => 123 | 170 => 124 | 169 => 125 | 263 => 148 | 264 => 149 | 206 => 142 | 240 => 150 | 241 => 151 | 276 => 155 | 277 => 156 | n => n, fun | 9 => 9 | 3 => 3 | 4 => 4 | 20 => 20 | 0 => 0 | 46 => 172 | 109 => 180 | 5 => 5 | 72 => 185 | 76 => 189 | 51 => 201 | 146 => 202 | 53 => 112 | 148 => 204 | 70 => 183 | 37 => 22 | 75 => 188 | 127 => 206 | 164 => 210 | 80 => 110 | n => n, fun | n => n⟩
theorem Tryz.lays105 : Go.Proofs.Lays.n105 Tryz.prog Tryz.lays105_ren := {
 mixed := by kernel_rfl
 f99 := Tryz.func121.trans (congrArg some (by kernel_rfl))
 f105 := Tryz.func93.trans (congrArg some (by kernel_rfl))
 f165 := Tryz.func122.trans (congrArg some (by kernel_rfl))
 f166 := Tryz.func123.trans (congrArg some (by kernel_rfl))
 f169 := Tryz.func125.trans (congrArg some (by kernel_rfl))
 f170 := Tryz.func124.trans (congrArg some (by kernel_rfl))
 f206 := Tryz.func142.trans (congrArg some (by kernel_rfl))
 f212 := Tryz.func120.trans (congrArg some (by kernel_rfl))
 f240 := Tryz.func150.trans (congrArg some (by kernel_rfl))
 f241 := Tryz.func151.trans (congrArg some (by kernel_rfl))
 f263 := Tryz.func148.trans (congrArg some (by kernel_rfl))
 f264 := Tryz.func149.trans (congrArg some (by kernel_rfl))
 f276 := Tryz.func155.trans (congrArg some (by kernel_rfl))
 f277 := Tryz.func156.trans (congrArg some (by kernel_rfl))
 t0 := Tryz.underlying0
 a0 := Tryz.isAgg0
 z0 := Tryz.sizeOf0
 v0 := Tryz.zeroValue0
 t3 := Tryz.underlying3
 a3 := Tryz.isAgg3
 z3 := Tryz.sizeOf3
 v3 := Tryz.zeroValue3
 t4 := Tryz.underlying4
 a4 := Tryz.isAgg4
 z4 := Tryz.sizeOf4
 v4 := Tryz.zeroValue4
 t5 := Tryz.underlying5
 a5 := Tryz.isAgg5
 z5 := Tryz.sizeOf5
 v5 := Tryz.zeroValue5
 t9 := Tryz.underlying9
 a9 := Tryz.isAgg9
 z9 := Tryz.sizeOf9
 v9 := Tryz.zeroValue9
 t20 := Tryz.underlying20
 a20 := Tryz.isAgg20
 z20 := Tryz.sizeOf20
 v20 := Tryz.zeroValue20
 t37 := Tryz.underlying22
 a37 := Tryz.isAgg22
 z37 := Tryz.sizeOf22
 v37 := Tryz.zeroValue22
 t46 := Tryz.underlying172
 a46 := Tryz.isAgg172
 z46 := Tryz.sizeOf172
 v46 := Tryz.zeroValue172
 t51 := Tryz.underlying201
 a51 := Tryz.isAgg201
 z51 := Tryz.sizeOf201
 v51 := Tryz.zeroValue201
 t53 := Tryz.underlying112
 a53 := Tryz.isAgg112
 z53 := Tryz.sizeOf112
 v53 := Tryz.zeroValue112
 t70 := Tryz.underlying183
 a70 := Tryz.isAgg183
 z70 := Tryz.sizeOf183
 v70 := Tryz.zeroValue183
 t72 := Tryz.underlying185
 a72 := Tryz.isAgg185
 z72 := Tryz.sizeOf185
 v72 := Tryz.zeroValue185
 t75 := Tryz.underlying188
 a75 := Tryz.isAgg188
 z75 := Tryz.sizeOf188
 v75 := Tryz.zeroValue188
 t76 := Tryz.underlying189
 a76 := Tryz.isAgg189
 z76 := Tryz.sizeOf189
 v76 := Tryz.zeroValue189
 t109 := Tryz.underlying180
 a109 := Tryz.isAgg180
 z109 := Tryz.sizeOf180
 v109 := Tryz.zeroValue180
 t127 := Tryz.underlying206
 a127 := Tryz.isAgg206
 z127 := Tryz.sizeOf206
 v127 := Tryz.zeroValue206
 t146 := Tryz.underlying202
 a146 := Tryz.isAgg202
 z146 := Tryz.sizeOf202
 v146 := Tryz.zeroValue202
 t148 := Tryz.underlying204
 a148 := Tryz.isAgg204
 z148 := Tryz.sizeOf204
 v148 := Tryz.zeroValue204
 t164 := Tryz.underlying210
 a164 := Tryz.isAgg210
 z164 := Tryz.sizeOf210
 v164 := Tryz.zeroValue210 }
theorem Tryz.Builder_Extra_105 : Builder.Extra Tryz.prog Tryz.lays105_ren := {
 sizeBuilder := by kernel_rfl
 liesBuilder := by kernel_rfl
 t5 := Tryz.underlying5
 a5 := Tryz.isAgg5
 z5 := Tryz.sizeOf5
 v5 := Tryz.zeroValue5
 infoByte := by kernel_rfl
 cellsByte := by kernel_rfl
 sizeByte := by kernel_rfl
 neB5 := by decide }
open Go.RowKit Go.Lib in
open Go.RowKit Go.Lib in
open Go.RowKit Go.Lib in
open Go.RowKit Go.Lib in
open Go.RowKit Go.Lib in
open Go.RowKit Go.Lib in
open Go.RowKit Go.Lib in
theorem Tryz.strings_Repeat (s : ByteArray) (c : Nat) (w : World) (hc : c ≤ 9223372036854775807) (hlen : s.size * c ≤ 140737488355328) :
 Calls Tryz.prog 93 #[.string s, .int .i64 c] w fun e w' => e = .returned (.string ⟨(Lib.repeatL s.data.toList c).toArray⟩) ∧ Below w.heap.size w w' := Any.strings_Repeat Tryz.lays105 Tryz.Builder_Extra_105 s c w hc hlen
end Go.Proofs
