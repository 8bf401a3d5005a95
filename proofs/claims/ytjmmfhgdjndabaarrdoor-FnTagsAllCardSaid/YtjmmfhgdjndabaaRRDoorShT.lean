/- The library's prefixes and classes of signs at this program (written by lay-plain.mjs). Conditions: none. -/
import Derived.Shelf.Strings.Prefix
import Derived.Shelf.Unicode.Latin
import Derived.Shelf.Unicode.Props
import Derived.Test.YtjmmfhgdjndabaaRRDoorProg
namespace Go.Proofs
open Go.Shelf
def Tryd.lays99_ren : Go.Shelf.Ren := ⟨fun | 99 => 54 | 206 => 70 | n => n, fun | 9 => 9 | 4 => 4 | 3 => 3 | n => n, fun | n => n⟩
theorem Tryd.lays99 : Go.Proofs.Lays.n99 Tryd.prog Tryd.lays99_ren := {
  mixed := by kernel_rfl
  f99 := Tryd.func54.trans (congrArg some (by kernel_rfl))
  f206 := Tryd.func70.trans (congrArg some (by kernel_rfl))
  t3 := Tryd.underlying3
  a3 := Tryd.isAgg3
  z3 := Tryd.sizeOf3
  v3 := Tryd.zeroValue3
  t4 := Tryd.underlying4
  a4 := Tryd.isAgg4
  z4 := Tryd.sizeOf4
  v4 := Tryd.zeroValue4
  t9 := Tryd.underlying9
  a9 := Tryd.isAgg9
  z9 := Tryd.sizeOf9
  v9 := Tryd.zeroValue9 }
open Go.RowKit Go.Lib in
/-- strings.HasPrefix: "HasPrefix reports whether the string s begins with prefix.": IT RETURNS 'Lib.hasPrefix s prefix'; the world is as it was. (LAID: no walk: one application.) -/
theorem Tryd.strings_HasPrefix (s p : ByteArray) (w : World) :
    Calls Tryd.prog 54 #[.string s, .string p] w fun e w' => e = .returned (.bool (Lib.hasPrefix s.data.toList p.data.toList)) ∧ w' = w := Any.strings_HasPrefix Tryd.lays99 s p w
def Tryd.lays101_ren : Go.Shelf.Ren := ⟨fun | 101 => 71 | 208 => 82 | 206 => 70 | n => n, fun | 9 => 9 | 4 => 4 | 3 => 3 | n => n, fun | n => n⟩
theorem Tryd.lays101 : Go.Proofs.Lays.n101 Tryd.prog Tryd.lays101_ren := {
  mixed := by kernel_rfl
  f101 := Tryd.func71.trans (congrArg some (by kernel_rfl))
  f206 := Tryd.func70.trans (congrArg some (by kernel_rfl))
  f208 := Tryd.func82.trans (congrArg some (by kernel_rfl))
  t3 := Tryd.underlying3
  a3 := Tryd.isAgg3
  z3 := Tryd.sizeOf3
  v3 := Tryd.zeroValue3
  t4 := Tryd.underlying4
  a4 := Tryd.isAgg4
  z4 := Tryd.sizeOf4
  v4 := Tryd.zeroValue4
  t9 := Tryd.underlying9
  a9 := Tryd.isAgg9
  z9 := Tryd.sizeOf9
  v9 := Tryd.zeroValue9 }
open Go.RowKit Go.Lib in
/-- strings.TrimPrefix: "TrimPrefix returns s without the provided leading prefix string. If s doesn't start with prefix, s is returned unchanged.": IT RETURNS 'Lib.trimPrefix s prefix'; the world is as it was. (LAID: no walk: one application.) -/
theorem Tryd.strings_TrimPrefix (s p : ByteArray) (w : World) :
    Calls Tryd.prog 71 #[.string s, .string p] w fun e w' => e = .returned (.string ⟨(Lib.trimPrefix s.data.toList p.data.toList).toArray⟩) ∧ w' = w := Any.strings_TrimPrefix Tryd.lays101 s p w
def Tryd.lays198_ren : Go.Shelf.Ren := ⟨fun | 198 => 58 | 261 => 53 | 311 => 68 | 312 => 69 | n => n, fun | 21 => 21 | 4 => 4 | 141 => 86 | 0 => 0 | 196 => 104 | 193 => 101 | 3 => 3 | 51 => 82 | 198 => 106 | 49 => 26 | 194 => 102 | 201 => 109 | 226 => 123 | 46 => 46 | 227 => 124 | n => n, fun | 5 => 4 | n => n⟩
theorem Tryd.lays198 : Go.Proofs.Lays.n198 Tryd.prog Tryd.lays198_ren := {
  mixed := by kernel_rfl
  f198 := Tryd.func58.trans (congrArg some (by kernel_rfl))
  f261 := Tryd.func53.trans (congrArg some (by kernel_rfl))
  f311 := Tryd.func68.trans (congrArg some (by kernel_rfl))
  f312 := Tryd.func69.trans (congrArg some (by kernel_rfl))
  t0 := Tryd.underlying0
  a0 := Tryd.isAgg0
  z0 := Tryd.sizeOf0
  v0 := Tryd.zeroValue0
  t3 := Tryd.underlying3
  a3 := Tryd.isAgg3
  z3 := Tryd.sizeOf3
  v3 := Tryd.zeroValue3
  t4 := Tryd.underlying4
  a4 := Tryd.isAgg4
  z4 := Tryd.sizeOf4
  v4 := Tryd.zeroValue4
  t21 := Tryd.underlying21
  a21 := Tryd.isAgg21
  z21 := Tryd.sizeOf21
  v21 := Tryd.zeroValue21
  t46 := Tryd.underlying46
  a46 := Tryd.isAgg46
  z46 := Tryd.sizeOf46
  v46 := Tryd.zeroValue46
  t49 := Tryd.underlying26
  a49 := Tryd.isAgg26
  z49 := Tryd.sizeOf26
  v49 := Tryd.zeroValue26
  t51 := Tryd.underlying82
  a51 := Tryd.isAgg82
  z51 := Tryd.sizeOf82
  v51 := Tryd.zeroValue82
  t141 := Tryd.underlying86
  a141 := Tryd.isAgg86
  z141 := Tryd.sizeOf86
  v141 := Tryd.zeroValue86
  t193 := Tryd.underlying101
  a193 := Tryd.isAgg101
  z193 := Tryd.sizeOf101
  v193 := Tryd.zeroValue101
  t194 := Tryd.underlying102
  a194 := Tryd.isAgg102
  z194 := Tryd.sizeOf102
  v194 := Tryd.zeroValue102
  t196 := Tryd.underlying104
  a196 := Tryd.isAgg104
  z196 := Tryd.sizeOf104
  v196 := Tryd.zeroValue104
  t198 := Tryd.underlying106
  a198 := Tryd.isAgg106
  z198 := Tryd.sizeOf106
  v198 := Tryd.zeroValue106
  t201 := Tryd.underlying109
  a201 := Tryd.isAgg109
  z201 := Tryd.sizeOf109
  v201 := Tryd.zeroValue109
  t226 := Tryd.underlying123
  a226 := Tryd.isAgg123
  z226 := Tryd.sizeOf123
  v226 := Tryd.zeroValue123
  t227 := Tryd.underlying124
  a227 := Tryd.isAgg124
  z227 := Tryd.sizeOf124
  v227 := Tryd.zeroValue124
  g5 := by kernel_rfl }
open Go.RowKit Go.Lib in
theorem Tryd.unicode_IsDigit (r : Int) (w : World) (h : r ≤ 255) :
    Calls Tryd.prog 58 #[.int .i32 r] w fun e w' => e = .returned (.bool (Lib.isDigitL r)) ∧ w' = w := Any.unicode_IsDigit Tryd.lays198 r w h
def Tryd.lays199_ren : Go.Shelf.Ren := ⟨fun | 199 => 44 | 261 => 53 | 311 => 68 | 312 => 69 | n => n, fun | 21 => 21 | 4 => 4 | 51 => 82 | 141 => 86 | 0 => 0 | 196 => 104 | 193 => 101 | 3 => 3 | 198 => 106 | 49 => 26 | 194 => 102 | 201 => 109 | 226 => 123 | 46 => 46 | 227 => 124 | n => n, fun | 6 => 1 | n => n⟩
theorem Tryd.lays199 : Go.Proofs.Lays.n199 Tryd.prog Tryd.lays199_ren := {
  mixed := by kernel_rfl
  f199 := Tryd.func44.trans (congrArg some (by kernel_rfl))
  f261 := Tryd.func53.trans (congrArg some (by kernel_rfl))
  f311 := Tryd.func68.trans (congrArg some (by kernel_rfl))
  f312 := Tryd.func69.trans (congrArg some (by kernel_rfl))
  t0 := Tryd.underlying0
  a0 := Tryd.isAgg0
  z0 := Tryd.sizeOf0
  v0 := Tryd.zeroValue0
  t3 := Tryd.underlying3
  a3 := Tryd.isAgg3
  z3 := Tryd.sizeOf3
  v3 := Tryd.zeroValue3
  t4 := Tryd.underlying4
  a4 := Tryd.isAgg4
  z4 := Tryd.sizeOf4
  v4 := Tryd.zeroValue4
  t21 := Tryd.underlying21
  a21 := Tryd.isAgg21
  z21 := Tryd.sizeOf21
  v21 := Tryd.zeroValue21
  t46 := Tryd.underlying46
  a46 := Tryd.isAgg46
  z46 := Tryd.sizeOf46
  v46 := Tryd.zeroValue46
  t49 := Tryd.underlying26
  a49 := Tryd.isAgg26
  z49 := Tryd.sizeOf26
  v49 := Tryd.zeroValue26
  t51 := Tryd.underlying82
  a51 := Tryd.isAgg82
  z51 := Tryd.sizeOf82
  v51 := Tryd.zeroValue82
  t141 := Tryd.underlying86
  a141 := Tryd.isAgg86
  z141 := Tryd.sizeOf86
  v141 := Tryd.zeroValue86
  t193 := Tryd.underlying101
  a193 := Tryd.isAgg101
  z193 := Tryd.sizeOf101
  v193 := Tryd.zeroValue101
  t194 := Tryd.underlying102
  a194 := Tryd.isAgg102
  z194 := Tryd.sizeOf102
  v194 := Tryd.zeroValue102
  t196 := Tryd.underlying104
  a196 := Tryd.isAgg104
  z196 := Tryd.sizeOf104
  v196 := Tryd.zeroValue104
  t198 := Tryd.underlying106
  a198 := Tryd.isAgg106
  z198 := Tryd.sizeOf106
  v198 := Tryd.zeroValue106
  t201 := Tryd.underlying109
  a201 := Tryd.isAgg109
  z201 := Tryd.sizeOf109
  v201 := Tryd.zeroValue109
  t226 := Tryd.underlying123
  a226 := Tryd.isAgg123
  z226 := Tryd.sizeOf123
  v226 := Tryd.zeroValue123
  t227 := Tryd.underlying124
  a227 := Tryd.isAgg124
  z227 := Tryd.sizeOf124
  v227 := Tryd.zeroValue124
  g6 := by kernel_rfl }
open Go.RowKit Go.Lib in
theorem Tryd.unicode_IsSpace (r : Int) (w : World) (h0 : 0 ≤ r) (h : r ≤ 255) :
    Calls Tryd.prog 44 #[.int .i32 r] w fun e w' => e = .returned (.bool (Lib.isSpaceL r)) ∧ w' = w := Any.unicode_IsSpace Tryd.lays199 r w h0 h
def Tryd.lays200_ren : Go.Shelf.Ren := ⟨fun | 200 => 57 | 261 => 53 | 311 => 68 | 312 => 69 | n => n, fun | 21 => 21 | 4 => 4 | 51 => 82 | 5 => 5 | 119 => 115 | 0 => 0 | 141 => 86 | 196 => 104 | 193 => 101 | 3 => 3 | 198 => 106 | 49 => 26 | 194 => 102 | 201 => 109 | 226 => 123 | 46 => 46 | 227 => 124 | n => n, fun | 7 => 2 | 8 => 3 | n => n⟩
theorem Tryd.lays200 : Go.Proofs.Lays.n200 Tryd.prog Tryd.lays200_ren := {
  mixed := by kernel_rfl
  f200 := Tryd.func57.trans (congrArg some (by kernel_rfl))
  f261 := Tryd.func53.trans (congrArg some (by kernel_rfl))
  f311 := Tryd.func68.trans (congrArg some (by kernel_rfl))
  f312 := Tryd.func69.trans (congrArg some (by kernel_rfl))
  t0 := Tryd.underlying0
  a0 := Tryd.isAgg0
  z0 := Tryd.sizeOf0
  v0 := Tryd.zeroValue0
  t3 := Tryd.underlying3
  a3 := Tryd.isAgg3
  z3 := Tryd.sizeOf3
  v3 := Tryd.zeroValue3
  t4 := Tryd.underlying4
  a4 := Tryd.isAgg4
  z4 := Tryd.sizeOf4
  v4 := Tryd.zeroValue4
  t5 := Tryd.underlying5
  a5 := Tryd.isAgg5
  z5 := Tryd.sizeOf5
  v5 := Tryd.zeroValue5
  t21 := Tryd.underlying21
  a21 := Tryd.isAgg21
  z21 := Tryd.sizeOf21
  v21 := Tryd.zeroValue21
  t46 := Tryd.underlying46
  a46 := Tryd.isAgg46
  z46 := Tryd.sizeOf46
  v46 := Tryd.zeroValue46
  t49 := Tryd.underlying26
  a49 := Tryd.isAgg26
  z49 := Tryd.sizeOf26
  v49 := Tryd.zeroValue26
  t51 := Tryd.underlying82
  a51 := Tryd.isAgg82
  z51 := Tryd.sizeOf82
  v51 := Tryd.zeroValue82
  t119 := Tryd.underlying115
  a119 := Tryd.isAgg115
  z119 := Tryd.sizeOf115
  t141 := Tryd.underlying86
  a141 := Tryd.isAgg86
  z141 := Tryd.sizeOf86
  v141 := Tryd.zeroValue86
  t193 := Tryd.underlying101
  a193 := Tryd.isAgg101
  z193 := Tryd.sizeOf101
  v193 := Tryd.zeroValue101
  t194 := Tryd.underlying102
  a194 := Tryd.isAgg102
  z194 := Tryd.sizeOf102
  v194 := Tryd.zeroValue102
  t196 := Tryd.underlying104
  a196 := Tryd.isAgg104
  z196 := Tryd.sizeOf104
  v196 := Tryd.zeroValue104
  t198 := Tryd.underlying106
  a198 := Tryd.isAgg106
  z198 := Tryd.sizeOf106
  v198 := Tryd.zeroValue106
  t201 := Tryd.underlying109
  a201 := Tryd.isAgg109
  z201 := Tryd.sizeOf109
  v201 := Tryd.zeroValue109
  t226 := Tryd.underlying123
  a226 := Tryd.isAgg123
  z226 := Tryd.sizeOf123
  v226 := Tryd.zeroValue123
  t227 := Tryd.underlying124
  a227 := Tryd.isAgg124
  z227 := Tryd.sizeOf124
  v227 := Tryd.zeroValue124
  g7 := by kernel_rfl
  g8 := by kernel_rfl }
open Go.RowKit Go.Lib in
theorem Tryd.unicode_IsLetter (c : Nat) (w : World) (hc : c < 256) (htab : Lib.TabIs Tryd.prog w "unicode.properties" .u8 Lib.propertiesTab) :
    Calls Tryd.prog 57 #[.int .i32 c] w fun e w' => e = .returned (.bool (Lib.isLetterL c)) ∧ w' = w := Any.unicode_IsLetter Tryd.lays200 (by kernel_rfl) c w hc htab
end Go.Proofs
