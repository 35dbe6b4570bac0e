/- Contracts of the library functions on runes and strings that the package calls: laid at this program by the kit's own tool, in plain words. -/
import Derived.Shelf.Strings.TrimSpace
import Derived.Shelf.Small.Utf8
import Derived.Shelf.Strconv.Itoa0
import Derived.Shelf.Strings.Prefix
import Derived.Shelf.Unicode.Latin
import Derived.Shelf.Unicode.Props
import Derived.Shelf.LaysM
import Derived.Shelf.Unicode.PropsLaid
import Derived.Shelf.Unicode.Decode
import Derived.Shelf.Unicode.DecodeSlow
import Derived.Shelf.Unicode.DecodeAny
import Derived.Shelf.Unicode.Is16White
import Derived.Shelf.Unicode.IsSpaceAny
import Derived.Shelf.Unicode.DecodeLast
import Derived.Shelf.Strings.TrimSpaceAny
import Derived.Shelf.Unicode.Is16WhiteD
import Derived.Shelf.Unicode.IsSpaceAnyD
import Derived.Shelf.Unicode.Is16Any
import Derived.Shelf.Unicode.Is32Any
import Derived.Shelf.Unicode.ExclAny
import Derived.Shelf.Unicode.PredsAny
import Derived.Test.YteemenhinhkonaaDoorProg
namespace Go.Proofs
open Go.Shelf
def Tryd.lays163_ren : Go.Shelf.Ren := ⟨fun | 163 => 72 | 237 => 90 | 199 => 91 | 238 => 92 | 272 => 102 | 261 => 103 | 273 => 104 | 197 => 95 | 315 => 116 | 311 => 117 | 312 => 118 | 271 => 119 | 260 => 106 | 120 => 130 | n => n, fun | 9 => 9 | 37 => 82 | 3 => 3 | 0 => 0 | 5 => 5 | 4 => 4 | 40 => 129 | 119 => 130 | 21 => 21 | 51 => 137 | 141 => 139 | 105 => 131 | 196 => 156 | 193 => 153 | 198 => 159 | 49 => 157 | 194 => 154 | 201 => 162 | 226 => 179 | 46 => 164 | 227 => 180 | 139 => 167 | 138 => 166 | n => n, fun | 0 => 2 | 6 => 3 | 3 => 7 | 4 => 8 | n => n⟩
theorem Tryd.lays163 : Go.Proofs.Lays.n163 Tryd.prog Tryd.lays163_ren := {
  mixed := by kernel_rfl
  f120 := Tryd.func130.trans (congrArg some (by kernel_rfl))
  f163 := Tryd.func72.trans (congrArg some (by kernel_rfl))
  f197 := Tryd.func95.trans (congrArg some (by kernel_rfl))
  f199 := Tryd.func91.trans (congrArg some (by kernel_rfl))
  f237 := Tryd.func90.trans (congrArg some (by kernel_rfl))
  f238 := Tryd.func92.trans (congrArg some (by kernel_rfl))
  f260 := Tryd.func106.trans (congrArg some (by kernel_rfl))
  f261 := Tryd.func103.trans (congrArg some (by kernel_rfl))
  f271 := Tryd.func119.trans (congrArg some (by kernel_rfl))
  f272 := Tryd.func102.trans (congrArg some (by kernel_rfl))
  f273 := Tryd.func104.trans (congrArg some (by kernel_rfl))
  f311 := Tryd.func117.trans (congrArg some (by kernel_rfl))
  f312 := Tryd.func118.trans (congrArg some (by kernel_rfl))
  f315 := Tryd.func116.trans (congrArg some (by kernel_rfl))
  t0 := Tryd.underlying0
  a0 := Tryd.isAgg0
  z0 := Tryd.sizeOf0
  v0 := Tryd.zeroValue0
  t3 := Tryd.underlying3
  a3 := Tryd.isAgg3
  z3 := Tryd.sizeOf3
  v3 := Tryd.zeroValue3
  t4 := Tryd.underlying4
  a4 := Tryd.isAgg4
  z4 := Tryd.sizeOf4
  v4 := Tryd.zeroValue4
  t5 := Tryd.underlying5
  a5 := Tryd.isAgg5
  z5 := Tryd.sizeOf5
  v5 := Tryd.zeroValue5
  t9 := Tryd.underlying9
  a9 := Tryd.isAgg9
  z9 := Tryd.sizeOf9
  v9 := Tryd.zeroValue9
  t21 := Tryd.underlying21
  a21 := Tryd.isAgg21
  z21 := Tryd.sizeOf21
  v21 := Tryd.zeroValue21
  t37 := Tryd.underlying82
  a37 := Tryd.isAgg82
  z37 := Tryd.sizeOf82
  v37 := Tryd.zeroValue82
  t40 := Tryd.underlying129
  a40 := Tryd.isAgg129
  z40 := Tryd.sizeOf129
  v40 := Tryd.zeroValue129
  t46 := Tryd.underlying164
  a46 := Tryd.isAgg164
  z46 := Tryd.sizeOf164
  v46 := Tryd.zeroValue164
  t49 := Tryd.underlying157
  a49 := Tryd.isAgg157
  z49 := Tryd.sizeOf157
  v49 := Tryd.zeroValue157
  t51 := Tryd.underlying137
  a51 := Tryd.isAgg137
  z51 := Tryd.sizeOf137
  v51 := Tryd.zeroValue137
  t105 := Tryd.underlying131
  a105 := Tryd.isAgg131
  z105 := Tryd.sizeOf131
  v105 := Tryd.zeroValue131
  t119 := Tryd.underlying130
  a119 := Tryd.isAgg130
  z119 := Tryd.sizeOf130
  t138 := Tryd.underlying166
  a138 := Tryd.isAgg166
  z138 := Tryd.sizeOf166
  v138 := Tryd.zeroValue166
  t139 := Tryd.underlying167
  a139 := Tryd.isAgg167
  z139 := Tryd.sizeOf167
  v139 := Tryd.zeroValue167
  t141 := Tryd.underlying139
  a141 := Tryd.isAgg139
  z141 := Tryd.sizeOf139
  v141 := Tryd.zeroValue139
  t193 := Tryd.underlying153
  a193 := Tryd.isAgg153
  z193 := Tryd.sizeOf153
  v193 := Tryd.zeroValue153
  t194 := Tryd.underlying154
  a194 := Tryd.isAgg154
  z194 := Tryd.sizeOf154
  v194 := Tryd.zeroValue154
  t196 := Tryd.underlying156
  a196 := Tryd.isAgg156
  z196 := Tryd.sizeOf156
  v196 := Tryd.zeroValue156
  t198 := Tryd.underlying159
  a198 := Tryd.isAgg159
  z198 := Tryd.sizeOf159
  v198 := Tryd.zeroValue159
  t201 := Tryd.underlying162
  a201 := Tryd.isAgg162
  z201 := Tryd.sizeOf162
  v201 := Tryd.zeroValue162
  t226 := Tryd.underlying179
  a226 := Tryd.isAgg179
  z226 := Tryd.sizeOf179
  v226 := Tryd.zeroValue179
  t227 := Tryd.underlying180
  a227 := Tryd.isAgg180
  z227 := Tryd.sizeOf180
  v227 := Tryd.zeroValue180
  g0 := by kernel_rfl
  g3 := by kernel_rfl
  g4 := by kernel_rfl
  g6 := by kernel_rfl }
theorem Tryd.Space_Extra_163 : Space.Extra Tryd.prog Tryd.lays163_ren := {
  gNamed := by kernel_rfl }
open Go.RowKit in
theorem Tryd.strings_TrimSpace (s : ByteArray) (w : World) (hs : s.size ≤ 9223372036854775807) (hascii : ∀ (j : Nat) b, s.data.toList[j]? = some b → b.toNat < 128) (htab : Lib.TabIs Tryd.prog w "strings.asciiSpace" .u8 Lib.asciiSpaceTab) :
    Calls Tryd.prog 72 #[.string s] w fun e w' => e = .returned (.string ⟨(Lib.trimSpace s.data.toList).toArray⟩) ∧ w' = Lib.bytesWorld w 5 s := Any.strings_TrimSpace Tryd.lays163 Tryd.Space_Extra_163 s w hs hascii htab
def Tryd.lays120_ren : Go.Shelf.Ren := ⟨fun | 120 => 130 | n => n, fun | 5 => 5 | 4 => 4 | n => n, fun | n => n⟩
theorem Tryd.lays120 : Go.Proofs.Lays.n120 Tryd.prog Tryd.lays120_ren := {
  mixed := by kernel_rfl
  f120 := Tryd.func130.trans (congrArg some (by kernel_rfl))
  t4 := Tryd.underlying4
  a4 := Tryd.isAgg4
  z4 := Tryd.sizeOf4
  v4 := Tryd.zeroValue4
  t5 := Tryd.underlying5
  a5 := Tryd.isAgg5
  z5 := Tryd.sizeOf5
  v5 := Tryd.zeroValue5 }
theorem Tryd.utf8_RuneStart (b : Int) (w : World) (h0 : 0 ≤ b) (h1 : b < 256) :
    Calls Tryd.prog 130 #[.int .u8 b] w fun e w' => e = .returned (.bool (Lib.runeStart b)) ∧ w' = w := Any.utf8_RuneStart Tryd.lays120 b w h0 h1
def Tryd.lays129_ren : Go.Shelf.Ren := ⟨fun | 129 => 126 | n => n, fun | 53 => 148 | 3 => 3 | 4 => 4 | 46 => 164 | 5 => 5 | 9 => 9 | n => n, fun | n => n⟩
theorem Tryd.lays129 : Go.Proofs.Lays.n129 Tryd.prog Tryd.lays129_ren := {
  mixed := by kernel_rfl
  f129 := Tryd.func126.trans (congrArg some (by kernel_rfl))
  t3 := Tryd.underlying3
  a3 := Tryd.isAgg3
  z3 := Tryd.sizeOf3
  v3 := Tryd.zeroValue3
  t4 := Tryd.underlying4
  a4 := Tryd.isAgg4
  z4 := Tryd.sizeOf4
  v4 := Tryd.zeroValue4
  t5 := Tryd.underlying5
  a5 := Tryd.isAgg5
  z5 := Tryd.sizeOf5
  v5 := Tryd.zeroValue5
  t9 := Tryd.underlying9
  a9 := Tryd.isAgg9
  z9 := Tryd.sizeOf9
  v9 := Tryd.zeroValue9
  t46 := Tryd.underlying164
  a46 := Tryd.isAgg164
  z46 := Tryd.sizeOf164
  v46 := Tryd.zeroValue164
  t53 := Tryd.underlying148
  a53 := Tryd.isAgg148
  z53 := Tryd.sizeOf148
  v53 := Tryd.zeroValue148 }
theorem Tryd.bits_Len64 (x : Int) (w : World) (h0 : 0 ≤ x) (h1 : x ≤ 18446744073709551615) :
    Calls Tryd.prog 126 #[.int .u64 x] w fun e w' => e = .returned (.int .i64 (Lib.bitLen x.toNat)) ∧ w' = w := Any.bits_Len64 Tryd.lays129 x w h0 h1
def Tryd.lays206_ren : Go.Shelf.Ren := ⟨fun | 206 => 89 | n => n, fun | 9 => 9 | 4 => 4 | 3 => 3 | n => n, fun | n => n⟩
theorem Tryd.lays206 : Go.Proofs.Lays.n206 Tryd.prog Tryd.lays206_ren := {
  mixed := by kernel_rfl
  f206 := Tryd.func89.trans (congrArg some (by kernel_rfl))
  t3 := Tryd.underlying3
  a3 := Tryd.isAgg3
  z3 := Tryd.sizeOf3
  v3 := Tryd.zeroValue3
  t4 := Tryd.underlying4
  a4 := Tryd.isAgg4
  z4 := Tryd.sizeOf4
  v4 := Tryd.zeroValue4
  t9 := Tryd.underlying9
  a9 := Tryd.isAgg9
  z9 := Tryd.sizeOf9
  v9 := Tryd.zeroValue9 }
open Go.RowKit Go.Lib in
theorem Tryd.stringslite_HasPrefix (s p : ByteArray) (w : World) :
    Calls Tryd.prog 89 #[.string s, .string p] w fun e w' => e = .returned (.bool (Lib.hasPrefix s.data.toList p.data.toList)) ∧ w' = w := Any.stringslite_HasPrefix Tryd.lays206 s p w
def Tryd.lays99_ren : Go.Shelf.Ren := ⟨fun | 99 => 71 | 206 => 89 | n => n, fun | 9 => 9 | 4 => 4 | 3 => 3 | n => n, fun | n => n⟩
theorem Tryd.lays99 : Go.Proofs.Lays.n99 Tryd.prog Tryd.lays99_ren := {
  mixed := by kernel_rfl
  f99 := Tryd.func71.trans (congrArg some (by kernel_rfl))
  f206 := Tryd.func89.trans (congrArg some (by kernel_rfl))
  t3 := Tryd.underlying3
  a3 := Tryd.isAgg3
  z3 := Tryd.sizeOf3
  v3 := Tryd.zeroValue3
  t4 := Tryd.underlying4
  a4 := Tryd.isAgg4
  z4 := Tryd.sizeOf4
  v4 := Tryd.zeroValue4
  t9 := Tryd.underlying9
  a9 := Tryd.isAgg9
  z9 := Tryd.sizeOf9
  v9 := Tryd.zeroValue9 }
open Go.RowKit Go.Lib in
theorem Tryd.strings_HasPrefix (s p : ByteArray) (w : World) :
    Calls Tryd.prog 71 #[.string s, .string p] w fun e w' => e = .returned (.bool (Lib.hasPrefix s.data.toList p.data.toList)) ∧ w' = w := Any.strings_HasPrefix Tryd.lays99 s p w
def Tryd.lays198_ren : Go.Shelf.Ren := ⟨fun | 198 => 97 | 261 => 103 | 311 => 117 | 312 => 118 | n => n, fun | 21 => 21 | 4 => 4 | 141 => 139 | 0 => 0 | 196 => 156 | 193 => 153 | 3 => 3 | 51 => 137 | 198 => 159 | 49 => 157 | 194 => 154 | 201 => 162 | 226 => 179 | 46 => 164 | 227 => 180 | n => n, fun | 5 => 6 | n => n⟩
theorem Tryd.lays198 : Go.Proofs.Lays.n198 Tryd.prog Tryd.lays198_ren := {
  mixed := by kernel_rfl
  f198 := Tryd.func97.trans (congrArg some (by kernel_rfl))
  f261 := Tryd.func103.trans (congrArg some (by kernel_rfl))
  f311 := Tryd.func117.trans (congrArg some (by kernel_rfl))
  f312 := Tryd.func118.trans (congrArg some (by kernel_rfl))
  t0 := Tryd.underlying0
  a0 := Tryd.isAgg0
  z0 := Tryd.sizeOf0
  v0 := Tryd.zeroValue0
  t3 := Tryd.underlying3
  a3 := Tryd.isAgg3
  z3 := Tryd.sizeOf3
  v3 := Tryd.zeroValue3
  t4 := Tryd.underlying4
  a4 := Tryd.isAgg4
  z4 := Tryd.sizeOf4
  v4 := Tryd.zeroValue4
  t21 := Tryd.underlying21
  a21 := Tryd.isAgg21
  z21 := Tryd.sizeOf21
  v21 := Tryd.zeroValue21
  t46 := Tryd.underlying164
  a46 := Tryd.isAgg164
  z46 := Tryd.sizeOf164
  v46 := Tryd.zeroValue164
  t49 := Tryd.underlying157
  a49 := Tryd.isAgg157
  z49 := Tryd.sizeOf157
  v49 := Tryd.zeroValue157
  t51 := Tryd.underlying137
  a51 := Tryd.isAgg137
  z51 := Tryd.sizeOf137
  v51 := Tryd.zeroValue137
  t141 := Tryd.underlying139
  a141 := Tryd.isAgg139
  z141 := Tryd.sizeOf139
  v141 := Tryd.zeroValue139
  t193 := Tryd.underlying153
  a193 := Tryd.isAgg153
  z193 := Tryd.sizeOf153
  v193 := Tryd.zeroValue153
  t194 := Tryd.underlying154
  a194 := Tryd.isAgg154
  z194 := Tryd.sizeOf154
  v194 := Tryd.zeroValue154
  t196 := Tryd.underlying156
  a196 := Tryd.isAgg156
  z196 := Tryd.sizeOf156
  v196 := Tryd.zeroValue156
  t198 := Tryd.underlying159
  a198 := Tryd.isAgg159
  z198 := Tryd.sizeOf159
  v198 := Tryd.zeroValue159
  t201 := Tryd.underlying162
  a201 := Tryd.isAgg162
  z201 := Tryd.sizeOf162
  v201 := Tryd.zeroValue162
  t226 := Tryd.underlying179
  a226 := Tryd.isAgg179
  z226 := Tryd.sizeOf179
  v226 := Tryd.zeroValue179
  t227 := Tryd.underlying180
  a227 := Tryd.isAgg180
  z227 := Tryd.sizeOf180
  v227 := Tryd.zeroValue180
  g5 := by kernel_rfl }
open Go.RowKit Go.Lib in
theorem Tryd.unicode_IsDigit (r : Int) (w : World) (h : r ≤ 255) :
    Calls Tryd.prog 97 #[.int .i32 r] w fun e w' => e = .returned (.bool (Lib.isDigitL r)) ∧ w' = w := Any.unicode_IsDigit Tryd.lays198 r w h
def Tryd.lays199_ren : Go.Shelf.Ren := ⟨fun | 199 => 91 | 261 => 103 | 311 => 117 | 312 => 118 | n => n, fun | 21 => 21 | 4 => 4 | 51 => 137 | 141 => 139 | 0 => 0 | 196 => 156 | 193 => 153 | 3 => 3 | 198 => 159 | 49 => 157 | 194 => 154 | 201 => 162 | 226 => 179 | 46 => 164 | 227 => 180 | n => n, fun | 6 => 3 | n => n⟩
theorem Tryd.lays199 : Go.Proofs.Lays.n199 Tryd.prog Tryd.lays199_ren := {
  mixed := by kernel_rfl
  f199 := Tryd.func91.trans (congrArg some (by kernel_rfl))
  f261 := Tryd.func103.trans (congrArg some (by kernel_rfl))
  f311 := Tryd.func117.trans (congrArg some (by kernel_rfl))
  f312 := Tryd.func118.trans (congrArg some (by kernel_rfl))
  t0 := Tryd.underlying0
  a0 := Tryd.isAgg0
  z0 := Tryd.sizeOf0
  v0 := Tryd.zeroValue0
  t3 := Tryd.underlying3
  a3 := Tryd.isAgg3
  z3 := Tryd.sizeOf3
  v3 := Tryd.zeroValue3
  t4 := Tryd.underlying4
  a4 := Tryd.isAgg4
  z4 := Tryd.sizeOf4
  v4 := Tryd.zeroValue4
  t21 := Tryd.underlying21
  a21 := Tryd.isAgg21
  z21 := Tryd.sizeOf21
  v21 := Tryd.zeroValue21
  t46 := Tryd.underlying164
  a46 := Tryd.isAgg164
  z46 := Tryd.sizeOf164
  v46 := Tryd.zeroValue164
  t49 := Tryd.underlying157
  a49 := Tryd.isAgg157
  z49 := Tryd.sizeOf157
  v49 := Tryd.zeroValue157
  t51 := Tryd.underlying137
  a51 := Tryd.isAgg137
  z51 := Tryd.sizeOf137
  v51 := Tryd.zeroValue137
  t141 := Tryd.underlying139
  a141 := Tryd.isAgg139
  z141 := Tryd.sizeOf139
  v141 := Tryd.zeroValue139
  t193 := Tryd.underlying153
  a193 := Tryd.isAgg153
  z193 := Tryd.sizeOf153
  v193 := Tryd.zeroValue153
  t194 := Tryd.underlying154
  a194 := Tryd.isAgg154
  z194 := Tryd.sizeOf154
  v194 := Tryd.zeroValue154
  t196 := Tryd.underlying156
  a196 := Tryd.isAgg156
  z196 := Tryd.sizeOf156
  v196 := Tryd.zeroValue156
  t198 := Tryd.underlying159
  a198 := Tryd.isAgg159
  z198 := Tryd.sizeOf159
  v198 := Tryd.zeroValue159
  t201 := Tryd.underlying162
  a201 := Tryd.isAgg162
  z201 := Tryd.sizeOf162
  v201 := Tryd.zeroValue162
  t226 := Tryd.underlying179
  a226 := Tryd.isAgg179
  z226 := Tryd.sizeOf179
  v226 := Tryd.zeroValue179
  t227 := Tryd.underlying180
  a227 := Tryd.isAgg180
  z227 := Tryd.sizeOf180
  v227 := Tryd.zeroValue180
  g6 := by kernel_rfl }
open Go.RowKit Go.Lib in
theorem Tryd.unicode_IsSpace (r : Int) (w : World) (h0 : 0 ≤ r) (h : r ≤ 255) :
    Calls Tryd.prog 91 #[.int .i32 r] w fun e w' => e = .returned (.bool (Lib.isSpaceL r)) ∧ w' = w := Any.unicode_IsSpace Tryd.lays199 r w h0 h
def Tryd.lays200_ren : Go.Shelf.Ren := ⟨fun | 200 => 96 | 261 => 103 | 311 => 117 | 312 => 118 | n => n, fun | 21 => 21 | 4 => 4 | 51 => 137 | 5 => 5 | 119 => 130 | 0 => 0 | 141 => 139 | 196 => 156 | 193 => 153 | 3 => 3 | 198 => 159 | 49 => 157 | 194 => 154 | 201 => 162 | 226 => 179 | 46 => 164 | 227 => 180 | n => n, fun | 7 => 4 | 8 => 5 | n => n⟩
theorem Tryd.lays200 : Go.Proofs.Lays.n200 Tryd.prog Tryd.lays200_ren := {
  mixed := by kernel_rfl
  f200 := Tryd.func96.trans (congrArg some (by kernel_rfl))
  f261 := Tryd.func103.trans (congrArg some (by kernel_rfl))
  f311 := Tryd.func117.trans (congrArg some (by kernel_rfl))
  f312 := Tryd.func118.trans (congrArg some (by kernel_rfl))
  t0 := Tryd.underlying0
  a0 := Tryd.isAgg0
  z0 := Tryd.sizeOf0
  v0 := Tryd.zeroValue0
  t3 := Tryd.underlying3
  a3 := Tryd.isAgg3
  z3 := Tryd.sizeOf3
  v3 := Tryd.zeroValue3
  t4 := Tryd.underlying4
  a4 := Tryd.isAgg4
  z4 := Tryd.sizeOf4
  v4 := Tryd.zeroValue4
  t5 := Tryd.underlying5
  a5 := Tryd.isAgg5
  z5 := Tryd.sizeOf5
  v5 := Tryd.zeroValue5
  t21 := Tryd.underlying21
  a21 := Tryd.isAgg21
  z21 := Tryd.sizeOf21
  v21 := Tryd.zeroValue21
  t46 := Tryd.underlying164
  a46 := Tryd.isAgg164
  z46 := Tryd.sizeOf164
  v46 := Tryd.zeroValue164
  t49 := Tryd.underlying157
  a49 := Tryd.isAgg157
  z49 := Tryd.sizeOf157
  v49 := Tryd.zeroValue157
  t51 := Tryd.underlying137
  a51 := Tryd.isAgg137
  z51 := Tryd.sizeOf137
  v51 := Tryd.zeroValue137
  t119 := Tryd.underlying130
  a119 := Tryd.isAgg130
  z119 := Tryd.sizeOf130
  t141 := Tryd.underlying139
  a141 := Tryd.isAgg139
  z141 := Tryd.sizeOf139
  v141 := Tryd.zeroValue139
  t193 := Tryd.underlying153
  a193 := Tryd.isAgg153
  z193 := Tryd.sizeOf153
  v193 := Tryd.zeroValue153
  t194 := Tryd.underlying154
  a194 := Tryd.isAgg154
  z194 := Tryd.sizeOf154
  v194 := Tryd.zeroValue154
  t196 := Tryd.underlying156
  a196 := Tryd.isAgg156
  z196 := Tryd.sizeOf156
  v196 := Tryd.zeroValue156
  t198 := Tryd.underlying159
  a198 := Tryd.isAgg159
  z198 := Tryd.sizeOf159
  v198 := Tryd.zeroValue159
  t201 := Tryd.underlying162
  a201 := Tryd.isAgg162
  z201 := Tryd.sizeOf162
  v201 := Tryd.zeroValue162
  t226 := Tryd.underlying179
  a226 := Tryd.isAgg179
  z226 := Tryd.sizeOf179
  v226 := Tryd.zeroValue179
  t227 := Tryd.underlying180
  a227 := Tryd.isAgg180
  z227 := Tryd.sizeOf180
  v227 := Tryd.zeroValue180
  g7 := by kernel_rfl
  g8 := by kernel_rfl }
open Go.RowKit Go.Lib in
theorem Tryd.unicode_IsLetter (c : Nat) (w : World) (hc : c < 256) (htab : Lib.TabIs Tryd.prog w "unicode.properties" .u8 Lib.propertiesTab) :
    Calls Tryd.prog 96 #[.int .i32 c] w fun e w' => e = .returned (.bool (Lib.isLetterL c)) ∧ w' = w := Any.unicode_IsLetter Tryd.lays200 (by kernel_rfl) c w hc htab
def Tryd.laysM200_ren : Go.Shelf.Ren := ⟨fun | 200 => 96 | 261 => 103 | 311 => 117 | 312 => 118 | n => n, fun | 21 => 21 | 4 => 4 | 51 => 137 | 5 => 5 | 119 => 130 | 0 => 0 | 141 => 139 | 196 => 156 | 193 => 153 | 3 => 3 | 198 => 159 | 49 => 157 | 194 => 154 | 201 => 162 | 226 => 179 | 46 => 164 | 227 => 180 | n => n, fun | 7 => 4 | 8 => 5 | n => n⟩
theorem Tryd.laysM200 : Go.Proofs.LaysM.n200 Tryd.prog Tryd.laysM200_ren := {
  mixed := by kernel_rfl
  f200 := Tryd.func96.trans (congrArg some (by kernel_rfl))
  f261 := Tryd.func103.trans (congrArg some (by kernel_rfl))
  f311 := Tryd.func117.trans (congrArg some (by kernel_rfl))
  f312 := Tryd.func118.trans (congrArg some (by kernel_rfl))
  t0 := Tryd.underlying0
  a0 := Tryd.isAgg0
  z0 := Tryd.sizeOf0
  v0 := Tryd.zeroValue0
  t3 := Tryd.underlying3
  a3 := Tryd.isAgg3
  z3 := Tryd.sizeOf3
  v3 := Tryd.zeroValue3
  t4 := Tryd.underlying4
  a4 := Tryd.isAgg4
  z4 := Tryd.sizeOf4
  v4 := Tryd.zeroValue4
  t5 := Tryd.underlying5
  a5 := Tryd.isAgg5
  z5 := Tryd.sizeOf5
  v5 := Tryd.zeroValue5
  t21 := Tryd.underlying21
  a21 := Tryd.isAgg21
  z21 := Tryd.sizeOf21
  v21 := Tryd.zeroValue21
  t46 := Tryd.underlying164
  a46 := Tryd.isAgg164
  z46 := Tryd.sizeOf164
  v46 := Tryd.zeroValue164
  t49 := Tryd.underlying157
  a49 := Tryd.isAgg157
  z49 := Tryd.sizeOf157
  v49 := Tryd.zeroValue157
  t51 := Tryd.underlying137
  a51 := Tryd.isAgg137
  z51 := Tryd.sizeOf137
  v51 := Tryd.zeroValue137
  t119 := Tryd.underlying130
  a119 := Tryd.isAgg130
  z119 := Tryd.sizeOf130
  t141 := Tryd.underlying139
  a141 := Tryd.isAgg139
  z141 := Tryd.sizeOf139
  v141 := Tryd.zeroValue139
  t193 := Tryd.underlying153
  a193 := Tryd.isAgg153
  z193 := Tryd.sizeOf153
  v193 := Tryd.zeroValue153
  t194 := Tryd.underlying154
  a194 := Tryd.isAgg154
  z194 := Tryd.sizeOf154
  v194 := Tryd.zeroValue154
  t196 := Tryd.underlying156
  a196 := Tryd.isAgg156
  z196 := Tryd.sizeOf156
  v196 := Tryd.zeroValue156
  t198 := Tryd.underlying159
  a198 := Tryd.isAgg159
  z198 := Tryd.sizeOf159
  v198 := Tryd.zeroValue159
  t201 := Tryd.underlying162
  a201 := Tryd.isAgg162
  z201 := Tryd.sizeOf162
  v201 := Tryd.zeroValue162
  t226 := Tryd.underlying179
  a226 := Tryd.isAgg179
  z226 := Tryd.sizeOf179
  v226 := Tryd.zeroValue179
  t227 := Tryd.underlying180
  a227 := Tryd.isAgg180
  z227 := Tryd.sizeOf180
  v227 := Tryd.zeroValue180
  g7 := by kernel_rfl
  g8 := by kernel_rfl
  i0 := by kernel_rfl
  i3 := by kernel_rfl
  i4 := by kernel_rfl
  i5 := by kernel_rfl
  i21 := by kernel_rfl
  i46 := by kernel_rfl
  i49 := by kernel_rfl
  i51 := by kernel_rfl
  i141 := by kernel_rfl
  i193 := by kernel_rfl
  i194 := by kernel_rfl
  i196 := by kernel_rfl
  i198 := by kernel_rfl
  i201 := by kernel_rfl
  i226 := by kernel_rfl
  i227 := by kernel_rfl
  m7 := by kernel_rfl
  m8 := by kernel_rfl }
open Go.RowKit Go.Lib in
theorem Tryd.unicode_IsLetter_laid (c : Nat) (w : World) (hc : c < 256) (htab : Lib.TabIs Tryd.prog w "unicode.properties" .u8 Lib.propertiesTab) :
    Calls Tryd.prog 96 #[.int .i32 c] w fun e w' => e = .returned (.bool (Lib.isLetterL c)) ∧ w' = w := Any.unicode_IsLetter_laid Tryd.laysM200 c w hc htab
def Tryd.lays197_ren : Go.Shelf.Ren := ⟨fun | 197 => 95 | 260 => 106 | n => n, fun | 9 => 9 | 21 => 21 | 3 => 3 | 4 => 4 | 5 => 5 | 105 => 131 | 119 => 130 | 0 => 0 | 46 => 164 | 139 => 167 | 138 => 166 | n => n, fun | 3 => 7 | 4 => 8 | n => n⟩
theorem Tryd.lays197 : Go.Proofs.Lays.n197 Tryd.prog Tryd.lays197_ren := {
  mixed := by kernel_rfl
  f197 := Tryd.func95.trans (congrArg some (by kernel_rfl))
  f260 := Tryd.func106.trans (congrArg some (by kernel_rfl))
  t0 := Tryd.underlying0
  a0 := Tryd.isAgg0
  z0 := Tryd.sizeOf0
  v0 := Tryd.zeroValue0
  t3 := Tryd.underlying3
  a3 := Tryd.isAgg3
  z3 := Tryd.sizeOf3
  v3 := Tryd.zeroValue3
  t4 := Tryd.underlying4
  a4 := Tryd.isAgg4
  z4 := Tryd.sizeOf4
  v4 := Tryd.zeroValue4
  t5 := Tryd.underlying5
  a5 := Tryd.isAgg5
  z5 := Tryd.sizeOf5
  v5 := Tryd.zeroValue5
  t9 := Tryd.underlying9
  a9 := Tryd.isAgg9
  z9 := Tryd.sizeOf9
  v9 := Tryd.zeroValue9
  t21 := Tryd.underlying21
  a21 := Tryd.isAgg21
  z21 := Tryd.sizeOf21
  v21 := Tryd.zeroValue21
  t46 := Tryd.underlying164
  a46 := Tryd.isAgg164
  z46 := Tryd.sizeOf164
  v46 := Tryd.zeroValue164
  t105 := Tryd.underlying131
  a105 := Tryd.isAgg131
  z105 := Tryd.sizeOf131
  v105 := Tryd.zeroValue131
  t119 := Tryd.underlying130
  a119 := Tryd.isAgg130
  z119 := Tryd.sizeOf130
  t138 := Tryd.underlying166
  a138 := Tryd.isAgg166
  z138 := Tryd.sizeOf166
  v138 := Tryd.zeroValue166
  t139 := Tryd.underlying167
  a139 := Tryd.isAgg167
  z139 := Tryd.sizeOf167
  v139 := Tryd.zeroValue167
  g3 := by kernel_rfl
  g4 := by kernel_rfl }
open Go.RowKit Go.Lib in
theorem Tryd.utf8_DecodeRuneInString_ascii (s : ByteArray) (x : UInt8) (w : World) (h0 : s.data.toList[0]? = some x) (hx : x.toNat < 128) :
    Calls Tryd.prog 95 #[.string s] w fun e w' => e = .returned (.tuple #[.int .i32 x.toNat, .int .i64 1]) ∧ w' = w := Any.utf8_DecodeRuneInString_ascii Tryd.lays197 s x w h0 hx
def Tryd.lays260_ren : Go.Shelf.Ren := ⟨fun | 260 => 106 | n => n, fun | 9 => 9 | 21 => 21 | 3 => 3 | 4 => 4 | 5 => 5 | 119 => 130 | 0 => 0 | 46 => 164 | 139 => 167 | 138 => 166 | n => n, fun | 3 => 7 | 4 => 8 | n => n⟩
theorem Tryd.lays260 : Go.Proofs.Lays.n260 Tryd.prog Tryd.lays260_ren := {
  mixed := by kernel_rfl
  f260 := Tryd.func106.trans (congrArg some (by kernel_rfl))
  t0 := Tryd.underlying0
  a0 := Tryd.isAgg0
  z0 := Tryd.sizeOf0
  v0 := Tryd.zeroValue0
  t3 := Tryd.underlying3
  a3 := Tryd.isAgg3
  z3 := Tryd.sizeOf3
  v3 := Tryd.zeroValue3
  t4 := Tryd.underlying4
  a4 := Tryd.isAgg4
  z4 := Tryd.sizeOf4
  v4 := Tryd.zeroValue4
  t5 := Tryd.underlying5
  a5 := Tryd.isAgg5
  z5 := Tryd.sizeOf5
  v5 := Tryd.zeroValue5
  t9 := Tryd.underlying9
  a9 := Tryd.isAgg9
  z9 := Tryd.sizeOf9
  v9 := Tryd.zeroValue9
  t21 := Tryd.underlying21
  a21 := Tryd.isAgg21
  z21 := Tryd.sizeOf21
  v21 := Tryd.zeroValue21
  t46 := Tryd.underlying164
  a46 := Tryd.isAgg164
  z46 := Tryd.sizeOf164
  v46 := Tryd.zeroValue164
  t119 := Tryd.underlying130
  a119 := Tryd.isAgg130
  z119 := Tryd.sizeOf130
  t138 := Tryd.underlying166
  a138 := Tryd.isAgg166
  z138 := Tryd.sizeOf166
  v138 := Tryd.zeroValue166
  t139 := Tryd.underlying167
  a139 := Tryd.isAgg167
  z139 := Tryd.sizeOf167
  v139 := Tryd.zeroValue167
  g3 := by kernel_rfl
  g4 := by kernel_rfl }
open Go.RowKit Go.Lib in
theorem Tryd.utf8_decodeRuneInStringSlow (s : ByteArray) (w : World) (hT : Lib.Utf8Tabs 7 8 w) :
    Calls Tryd.prog 106 #[.string s] w fun e w' => e = .returned (.tuple #[.int .i32 (Lib.decodeGo s).1, .int .i64 (Lib.decodeGo s).2]) ∧ Below w.heap.size w w' := Any.utf8_decodeRuneInStringSlow Tryd.lays260 s w hT
open Go.RowKit Go.Lib in
theorem Tryd.utf8_DecodeRuneInString (s : ByteArray) (w : World) (hT : Lib.Utf8Tabs 7 8 w) :
    Calls Tryd.prog 95 #[.string s] w fun e w' => e = .returned (.tuple #[.int .i32 (Lib.decodeGo s).1, .int .i64 (Lib.decodeGo s).2]) ∧ Below w.heap.size w w' := Any.utf8_DecodeRuneInString Tryd.lays197 s w hT
def Tryd.lays311_ren : Go.Shelf.Ren := ⟨fun | 311 => 117 | n => n, fun | 193 => 153 | 49 => 157 | 4 => 4 | 3 => 3 | 0 => 0 | 226 => 179 | 198 => 159 | 46 => 164 | n => n, fun | n => n⟩
theorem Tryd.lays311 : Go.Proofs.Lays.n311 Tryd.prog Tryd.lays311_ren := {
  mixed := by kernel_rfl
  f311 := Tryd.func117.trans (congrArg some (by kernel_rfl))
  t0 := Tryd.underlying0
  a0 := Tryd.isAgg0
  z0 := Tryd.sizeOf0
  v0 := Tryd.zeroValue0
  t3 := Tryd.underlying3
  a3 := Tryd.isAgg3
  z3 := Tryd.sizeOf3
  v3 := Tryd.zeroValue3
  t4 := Tryd.underlying4
  a4 := Tryd.isAgg4
  z4 := Tryd.sizeOf4
  v4 := Tryd.zeroValue4
  t46 := Tryd.underlying164
  a46 := Tryd.isAgg164
  z46 := Tryd.sizeOf164
  v46 := Tryd.zeroValue164
  t49 := Tryd.underlying157
  a49 := Tryd.isAgg157
  z49 := Tryd.sizeOf157
  v49 := Tryd.zeroValue157
  t193 := Tryd.underlying153
  a193 := Tryd.isAgg153
  z193 := Tryd.sizeOf153
  v193 := Tryd.zeroValue153
  t198 := Tryd.underlying159
  a198 := Tryd.isAgg159
  z198 := Tryd.sizeOf159
  v198 := Tryd.zeroValue159
  t226 := Tryd.underlying179
  a226 := Tryd.isAgg179
  z226 := Tryd.sizeOf179
  v226 := Tryd.zeroValue179 }
open Go.RowKit Go.Lib in
theorem Tryd.unicode_is16_white (R oR : Nat) (z : Nat) (w : World) (hz : z < 65536) (hz0 : 255 < z) (c6 : w.cell? ⟨R, oR + 6, none⟩ = some (.int .u16 160)) (c7 : w.cell? ⟨R, oR + 7, none⟩ = some (.int .u16 5760)) (c8 : w.cell? ⟨R, oR + 8, none⟩ = some (.int .u16 5600)) (c9 : w.cell? ⟨R, oR + 9, none⟩ = some (.int .u16 8192)) (c10 : w.cell? ⟨R, oR + 10, none⟩ = some (.int .u16 8202)) (c11 : w.cell? ⟨R, oR + 11, none⟩ = some (.int .u16 1)) (c12 : w.cell? ⟨R, oR + 12, none⟩ = some (.int .u16 8232)) (c13 : w.cell? ⟨R, oR + 13, none⟩ = some (.int .u16 8233)) (c14 : w.cell? ⟨R, oR + 14, none⟩ = some (.int .u16 1)) (c15 : w.cell? ⟨R, oR + 15, none⟩ = some (.int .u16 8239)) (c16 : w.cell? ⟨R, oR + 16, none⟩ = some (.int .u16 8287)) (c17 : w.cell? ⟨R, oR + 17, none⟩ = some (.int .u16 48)) (c18 : w.cell? ⟨R, oR + 18, none⟩ = some (.int .u16 12288)) (c19 : w.cell? ⟨R, oR + 19, none⟩ = some (.int .u16 12288)) (c20 : w.cell? ⟨R, oR + 20, none⟩ = some (.int .u16 1)) :
    Calls Tryd.prog 117 #[.slice (some ⟨R, oR + 6, none⟩) 5 5, .int .u16 z] w fun e w' => e = .returned (.bool (Lib.isSpaceR z)) ∧ Below w.heap.size w w' := Any.unicode_is16_white Tryd.lays311 R oR z w hz hz0 c6 c7 c8 c9 c10 c11 c12 c13 c14 c15 c16 c17 c18 c19 c20
def Tryd.lays261_ren : Go.Shelf.Ren := ⟨fun | 261 => 103 | 311 => 117 | 312 => 118 | n => n, fun | 141 => 139 | 21 => 21 | 4 => 4 | 0 => 0 | 196 => 156 | 193 => 153 | 3 => 3 | 51 => 137 | 198 => 159 | 49 => 157 | 194 => 154 | 201 => 162 | 226 => 179 | 46 => 164 | 227 => 180 | n => n, fun | n => n⟩
theorem Tryd.lays261 : Go.Proofs.Lays.n261 Tryd.prog Tryd.lays261_ren := {
  mixed := by kernel_rfl
  f261 := Tryd.func103.trans (congrArg some (by kernel_rfl))
  f311 := Tryd.func117.trans (congrArg some (by kernel_rfl))
  f312 := Tryd.func118.trans (congrArg some (by kernel_rfl))
  t0 := Tryd.underlying0
  a0 := Tryd.isAgg0
  z0 := Tryd.sizeOf0
  v0 := Tryd.zeroValue0
  t3 := Tryd.underlying3
  a3 := Tryd.isAgg3
  z3 := Tryd.sizeOf3
  v3 := Tryd.zeroValue3
  t4 := Tryd.underlying4
  a4 := Tryd.isAgg4
  z4 := Tryd.sizeOf4
  v4 := Tryd.zeroValue4
  t21 := Tryd.underlying21
  a21 := Tryd.isAgg21
  z21 := Tryd.sizeOf21
  v21 := Tryd.zeroValue21
  t46 := Tryd.underlying164
  a46 := Tryd.isAgg164
  z46 := Tryd.sizeOf164
  v46 := Tryd.zeroValue164
  t49 := Tryd.underlying157
  a49 := Tryd.isAgg157
  z49 := Tryd.sizeOf157
  v49 := Tryd.zeroValue157
  t51 := Tryd.underlying137
  a51 := Tryd.isAgg137
  z51 := Tryd.sizeOf137
  v51 := Tryd.zeroValue137
  t141 := Tryd.underlying139
  a141 := Tryd.isAgg139
  z141 := Tryd.sizeOf139
  v141 := Tryd.zeroValue139
  t193 := Tryd.underlying153
  a193 := Tryd.isAgg153
  z193 := Tryd.sizeOf153
  v193 := Tryd.zeroValue153
  t194 := Tryd.underlying154
  a194 := Tryd.isAgg154
  z194 := Tryd.sizeOf154
  v194 := Tryd.zeroValue154
  t196 := Tryd.underlying156
  a196 := Tryd.isAgg156
  z196 := Tryd.sizeOf156
  v196 := Tryd.zeroValue156
  t198 := Tryd.underlying159
  a198 := Tryd.isAgg159
  z198 := Tryd.sizeOf159
  v198 := Tryd.zeroValue159
  t201 := Tryd.underlying162
  a201 := Tryd.isAgg162
  z201 := Tryd.sizeOf162
  v201 := Tryd.zeroValue162
  t226 := Tryd.underlying179
  a226 := Tryd.isAgg179
  z226 := Tryd.sizeOf179
  v226 := Tryd.zeroValue179
  t227 := Tryd.underlying180
  a227 := Tryd.isAgg180
  z227 := Tryd.sizeOf180
  v227 := Tryd.zeroValue180 }
open Go.RowKit Go.Lib in
theorem Tryd.unicode_isExcludingLatin_white (T oT R oR : Nat) (r : Int) (w : World) (hlo : -2147483648 ≤ r) (hhi : r ≤ 2147483647) (hr : r < 0 ∨ 255 < r) (h2 : w.cell? ⟨T, oT, none⟩ = some (.slice (some ⟨R, oR, none⟩) 7 7)) (h3 : w.cell? ⟨T, oT + 1, none⟩ = some (.slice none 0 0)) (h4 : w.cell? ⟨T, oT + 2, none⟩ = some (.int .i64 2)) (h5 : ∀ i, i < 21 → w.cell? ⟨R, oR + i, none⟩ = some (.int .u16 (whiteT.getD i 0))) :
    Calls Tryd.prog 103 #[.pointer (some ⟨T, oT, none⟩), .int .i32 r] w fun e w' => e = .returned (.bool (Lib.isSpaceZ r)) ∧ Below w.heap.size w w' := Any.unicode_isExcludingLatin_white Tryd.lays261 T oT R oR r w hlo hhi hr h2 h3 h4 h5
open Go.RowKit Go.Lib in
theorem Tryd.unicode_IsSpace_any (r : Int) (w : World) (hlo : -2147483648 ≤ r) (hhi : r ≤ 2147483647) (hW : Lib.WhiteTab 3 w) :
    Calls Tryd.prog 91 #[.int .i32 r] w fun e w' => e = .returned (.bool (Lib.isSpaceZ r)) ∧ Below w.heap.size w w' := Any.unicode_IsSpace_any Tryd.lays199 r w hlo hhi hW
def Tryd.lays271_ren : Go.Shelf.Ren := ⟨fun | 271 => 119 | 120 => 130 | 197 => 95 | 260 => 106 | n => n, fun | 9 => 9 | 21 => 21 | 3 => 3 | 4 => 4 | 5 => 5 | 105 => 131 | 119 => 130 | 0 => 0 | 46 => 164 | 139 => 167 | 138 => 166 | n => n, fun | 3 => 7 | 4 => 8 | n => n⟩
theorem Tryd.lays271 : Go.Proofs.Lays.n271 Tryd.prog Tryd.lays271_ren := {
  mixed := by kernel_rfl
  f120 := Tryd.func130.trans (congrArg some (by kernel_rfl))
  f197 := Tryd.func95.trans (congrArg some (by kernel_rfl))
  f260 := Tryd.func106.trans (congrArg some (by kernel_rfl))
  f271 := Tryd.func119.trans (congrArg some (by kernel_rfl))
  t0 := Tryd.underlying0
  a0 := Tryd.isAgg0
  z0 := Tryd.sizeOf0
  v0 := Tryd.zeroValue0
  t3 := Tryd.underlying3
  a3 := Tryd.isAgg3
  z3 := Tryd.sizeOf3
  v3 := Tryd.zeroValue3
  t4 := Tryd.underlying4
  a4 := Tryd.isAgg4
  z4 := Tryd.sizeOf4
  v4 := Tryd.zeroValue4
  t5 := Tryd.underlying5
  a5 := Tryd.isAgg5
  z5 := Tryd.sizeOf5
  v5 := Tryd.zeroValue5
  t9 := Tryd.underlying9
  a9 := Tryd.isAgg9
  z9 := Tryd.sizeOf9
  v9 := Tryd.zeroValue9
  t21 := Tryd.underlying21
  a21 := Tryd.isAgg21
  z21 := Tryd.sizeOf21
  v21 := Tryd.zeroValue21
  t46 := Tryd.underlying164
  a46 := Tryd.isAgg164
  z46 := Tryd.sizeOf164
  v46 := Tryd.zeroValue164
  t105 := Tryd.underlying131
  a105 := Tryd.isAgg131
  z105 := Tryd.sizeOf131
  v105 := Tryd.zeroValue131
  t119 := Tryd.underlying130
  a119 := Tryd.isAgg130
  z119 := Tryd.sizeOf130
  t138 := Tryd.underlying166
  a138 := Tryd.isAgg166
  z138 := Tryd.sizeOf166
  v138 := Tryd.zeroValue166
  t139 := Tryd.underlying167
  a139 := Tryd.isAgg167
  z139 := Tryd.sizeOf167
  v139 := Tryd.zeroValue167
  g3 := by kernel_rfl
  g4 := by kernel_rfl }
open Go.RowKit Go.Lib in
theorem Tryd.utf8_DecodeLastRuneInString (s : ByteArray) (w : World) (hs : s.size ≤ 9223372036854775807) (hT : Lib.Utf8Tabs 7 8 w) :
    Calls Tryd.prog 119 #[.string s] w fun e w' => e = .returned (.tuple #[.int .i32 (Lib.decodeLastL s.data.toList).1, .int .i64 (Lib.decodeLastL s.data.toList).2]) ∧ Below w.heap.size w w' := Any.utf8_DecodeLastRuneInString Tryd.lays271 s w hs hT
open Go.RowKit in
theorem Tryd.strings_TrimSpace_any (s : ByteArray) (w : World) (hs : s.size ≤ 9223372036854775807) (htab : Lib.TabIs Tryd.prog w "strings.asciiSpace" .u8 Lib.asciiSpaceTab) (hU8 : Lib.Utf8Tabs 7 8 w) (hWS : Lib.WhiteTab 3 w) :
    Calls Tryd.prog 72 #[.string s] w fun e w' => e = .returned (.string ⟨(Lib.trimSpaceD s.data.toList).toArray⟩) ∧ Below w.heap.size w w' := Any.strings_TrimSpace_any Tryd.lays163 Tryd.Space_Extra_163 s w hs htab hU8 hWS
open Go.RowKit Go.Lib in
theorem Tryd.unicode_is16_white_d (R oR : Nat) (z : Nat) (w : World) (hz : z < 65536) (hz0 : 255 < z) (c6 : w.cell? ⟨R, oR + 6, none⟩ = some (.int .u16 160)) (c7 : w.cell? ⟨R, oR + 7, none⟩ = some (.int .u16 5760)) (c8 : w.cell? ⟨R, oR + 8, none⟩ = some (.int .u16 5600)) (c9 : w.cell? ⟨R, oR + 9, none⟩ = some (.int .u16 8192)) (c10 : w.cell? ⟨R, oR + 10, none⟩ = some (.int .u16 8202)) (c11 : w.cell? ⟨R, oR + 11, none⟩ = some (.int .u16 1)) (c12 : w.cell? ⟨R, oR + 12, none⟩ = some (.int .u16 8232)) (c13 : w.cell? ⟨R, oR + 13, none⟩ = some (.int .u16 8233)) (c14 : w.cell? ⟨R, oR + 14, none⟩ = some (.int .u16 1)) (c15 : w.cell? ⟨R, oR + 15, none⟩ = some (.int .u16 8239)) (c16 : w.cell? ⟨R, oR + 16, none⟩ = some (.int .u16 8287)) (c17 : w.cell? ⟨R, oR + 17, none⟩ = some (.int .u16 48)) (c18 : w.cell? ⟨R, oR + 18, none⟩ = some (.int .u16 12288)) (c19 : w.cell? ⟨R, oR + 19, none⟩ = some (.int .u16 12288)) (c20 : w.cell? ⟨R, oR + 20, none⟩ = some (.int .u16 1)) :
    Calls Tryd.prog 117 #[.slice (some ⟨R, oR + 6, none⟩) 5 5, .int .u16 z] w fun e w' => e = .returned (.bool (Lib.isSpaceR z)) ∧ ∃ q, w' = w.drewN q := Any.unicode_is16_white_d Tryd.lays311 R oR z w hz hz0 c6 c7 c8 c9 c10 c11 c12 c13 c14 c15 c16 c17 c18 c19 c20
open Go.RowKit Go.Lib in
theorem Tryd.unicode_isExcludingLatin_white_d (T oT R oR : Nat) (r : Int) (w : World) (hlo : -2147483648 ≤ r) (hhi : r ≤ 2147483647) (hr : r < 0 ∨ 255 < r) (h2 : w.cell? ⟨T, oT, none⟩ = some (.slice (some ⟨R, oR, none⟩) 7 7)) (h3 : w.cell? ⟨T, oT + 1, none⟩ = some (.slice none 0 0)) (h4 : w.cell? ⟨T, oT + 2, none⟩ = some (.int .i64 2)) (h5 : ∀ i, i < 21 → w.cell? ⟨R, oR + i, none⟩ = some (.int .u16 (whiteT.getD i 0))) :
    Calls Tryd.prog 103 #[.pointer (some ⟨T, oT, none⟩), .int .i32 r] w fun e w' => e = .returned (.bool (Lib.isSpaceZ r)) ∧ ∃ q, w' = w.drewN q := Any.unicode_isExcludingLatin_white_d Tryd.lays261 T oT R oR r w hlo hhi hr h2 h3 h4 h5
open Go.RowKit Go.Lib in
theorem Tryd.unicode_IsSpace_any_d (r : Int) (w : World) (hlo : -2147483648 ≤ r) (hhi : r ≤ 2147483647) (hW : Lib.WhiteTab 3 w) :
    Calls Tryd.prog 91 #[.int .i32 r] w fun e w' => e = .returned (.bool (Lib.isSpaceZ r)) ∧ ∃ q, w' = w.drewN q := Any.unicode_IsSpace_any_d Tryd.lays199 r w hlo hhi hW
open Go.RowKit Go.Lib in
theorem Tryd.unicode_is16_any (T : Array Rg) (R oR cap : Nat) (z : Nat) (w : World) (hz : z < 65536) (hT : RgTab .u16 R oR T w) (hok : RgOk 65536 T) (hn : T.size ≤ 1000000000) :
    Calls Tryd.prog 117 #[.slice (some ⟨R, oR, none⟩) T.size cap, .int .u16 z] w fun e w' => e = .returned (.bool (is16Go T z)) ∧ ∃ q, w' = w.drewN q := Any.unicode_is16_any Tryd.lays311 T R oR cap z w hz hT hok hn
def Tryd.lays312_ren : Go.Shelf.Ren := ⟨fun | 312 => 118 | n => n, fun | 194 => 154 | 51 => 137 | 4 => 4 | 3 => 3 | 0 => 0 | 227 => 180 | 201 => 162 | 46 => 164 | n => n, fun | n => n⟩
theorem Tryd.lays312 : Go.Proofs.Lays.n312 Tryd.prog Tryd.lays312_ren := {
  mixed := by kernel_rfl
  f312 := Tryd.func118.trans (congrArg some (by kernel_rfl))
  t0 := Tryd.underlying0
  a0 := Tryd.isAgg0
  z0 := Tryd.sizeOf0
  v0 := Tryd.zeroValue0
  t3 := Tryd.underlying3
  a3 := Tryd.isAgg3
  z3 := Tryd.sizeOf3
  v3 := Tryd.zeroValue3
  t4 := Tryd.underlying4
  a4 := Tryd.isAgg4
  z4 := Tryd.sizeOf4
  v4 := Tryd.zeroValue4
  t46 := Tryd.underlying164
  a46 := Tryd.isAgg164
  z46 := Tryd.sizeOf164
  v46 := Tryd.zeroValue164
  t51 := Tryd.underlying137
  a51 := Tryd.isAgg137
  z51 := Tryd.sizeOf137
  v51 := Tryd.zeroValue137
  t194 := Tryd.underlying154
  a194 := Tryd.isAgg154
  z194 := Tryd.sizeOf154
  v194 := Tryd.zeroValue154
  t201 := Tryd.underlying162
  a201 := Tryd.isAgg162
  z201 := Tryd.sizeOf162
  v201 := Tryd.zeroValue162
  t227 := Tryd.underlying180
  a227 := Tryd.isAgg180
  z227 := Tryd.sizeOf180
  v227 := Tryd.zeroValue180 }
open Go.RowKit Go.Lib in
theorem Tryd.unicode_is32_any (T : Array Rg) (R oR cap : Nat) (z : Nat) (w : World) (hz : z < 4294967296) (hT : RgTab .u32 R oR T w) (hok : RgOk 4294967296 T) (hn : T.size ≤ 1000000000) :
    Calls Tryd.prog 118 #[.slice (some ⟨R, oR, none⟩) T.size cap, .int .u32 z] w fun e w' => e = .returned (.bool (is32Go T z)) ∧ Below w.heap.size w w' := Any.unicode_is32_any Tryd.lays312 T R oR cap z w hz hT hok hn
open Go.RowKit Go.Lib in
theorem Tryd.unicode_isExcludingLatin_any (Tb oT : Nat) (T : RTab) (r : Int) (w : World) (hlo : -2147483648 ≤ r) (hhi : r ≤ 2147483647) (hA : RTabAt Tb oT T w) (hok : RTabOk T) :
    Calls Tryd.prog 103 #[.pointer (some ⟨Tb, oT, none⟩), .int .i32 r] w fun e w' => e = .returned (.bool (exclGo T r)) ∧ Below w.heap.size w w' := Any.unicode_isExcludingLatin_any Tryd.lays261 Tb oT T r w hlo hhi hA hok
open Go.RowKit Go.Lib in
theorem Tryd.unicode_IsLetter_any (T : RTab) (r : Int) (w : World) (hlo : -2147483648 ≤ r) (hhi : r ≤ 2147483647) (htab : Lib.TabIs Tryd.prog w "unicode.properties" .u8 Lib.propertiesTab) (hV : RVar 5 T w) (hok : RTabOk T) :
    Calls Tryd.prog 96 #[.int .i32 r] w fun e w' => e = .returned (.bool (if latin1 r then isLetterL r else exclGo T r)) ∧ Below w.heap.size w w' := Any.unicode_IsLetter_any Tryd.lays200 (by kernel_rfl) T r w hlo hhi htab hV hok
open Go.RowKit Go.Lib in
theorem Tryd.unicode_IsDigit_any (T : RTab) (r : Int) (w : World) (hlo : -2147483648 ≤ r) (hhi : r ≤ 2147483647) (hV : RVar 6 T w) (hok : RTabOk T) :
    Calls Tryd.prog 97 #[.int .i32 r] w fun e w' => e = .returned (.bool (if r ≤ 255 then isDigitL r else exclGo T r)) ∧ Below w.heap.size w w' := Any.unicode_IsDigit_any Tryd.lays198 T r w hlo hhi hV hok
end Go.Proofs
