/- The library's strconv.Itoa at this program, for small numbers (written by lay-plain.mjs). Conditions: none. -/
import Derived.Shelf.Strconv.Itoa3
import Derived.Test.YtdajihikedjaiaaProg
namespace Go.Proofs
open Go.Shelf
def Try.lays171_ren : Go.Shelf.Ren := ⟨fun | 171 => 69 | 243 => 71 | 246 => 72 | 283 => 40 | 284 => 41 | 285 => 42 | 286 => 43 | 129 => 45 | 317 => 44 | 318 => 46 | 319 => 47 | 320 => 48 | 337 => 49 | 338 => 50 | n => n, fun | 3 => 3 | 9 => 9 | 2 => 2 | 4 => 4 | 171 => 91 | 0 => 0 | 53 => 22 | 37 => 27 | 5 => 5 | 173 => 94 | 212 => 98 | 51 => 32 | 20 => 20 | 213 => 99 | 46 => 29 | 232 => 103 | 233 => 104 | n => n, fun | 17 => 0 | 18 => 1 | 19 => 2 | n => n⟩
theorem Try.lays171 : Go.Proofs.Lays.n171 Try.prog Try.lays171_ren := {
  mixed := by kernel_rfl
  f129 := Try.func45.trans (congrArg some (by kernel_rfl))
  f171 := Try.func69.trans (congrArg some (by kernel_rfl))
  f243 := Try.func71.trans (congrArg some (by kernel_rfl))
  f246 := Try.func72.trans (congrArg some (by kernel_rfl))
  f283 := Try.func40.trans (congrArg some (by kernel_rfl))
  f284 := Try.func41.trans (congrArg some (by kernel_rfl))
  f285 := Try.func42.trans (congrArg some (by kernel_rfl))
  f286 := Try.func43.trans (congrArg some (by kernel_rfl))
  f317 := Try.func44.trans (congrArg some (by kernel_rfl))
  f318 := Try.func46.trans (congrArg some (by kernel_rfl))
  f319 := Try.func47.trans (congrArg some (by kernel_rfl))
  f320 := Try.func48.trans (congrArg some (by kernel_rfl))
  f337 := Try.func49.trans (congrArg some (by kernel_rfl))
  f338 := Try.func50.trans (congrArg some (by kernel_rfl))
  t0 := Try.underlying0
  a0 := Try.isAgg0
  z0 := Try.sizeOf0
  v0 := Try.zeroValue0
  t2 := Try.underlying2
  a2 := Try.isAgg2
  z2 := Try.sizeOf2
  v2 := Try.zeroValue2
  t3 := Try.underlying3
  a3 := Try.isAgg3
  z3 := Try.sizeOf3
  v3 := Try.zeroValue3
  t4 := Try.underlying4
  a4 := Try.isAgg4
  z4 := Try.sizeOf4
  v4 := Try.zeroValue4
  t5 := Try.underlying5
  a5 := Try.isAgg5
  z5 := Try.sizeOf5
  v5 := Try.zeroValue5
  t9 := Try.underlying9
  a9 := Try.isAgg9
  z9 := Try.sizeOf9
  v9 := Try.zeroValue9
  t20 := Try.underlying20
  a20 := Try.isAgg20
  z20 := Try.sizeOf20
  v20 := Try.zeroValue20
  t37 := Try.underlying27
  a37 := Try.isAgg27
  z37 := Try.sizeOf27
  v37 := Try.zeroValue27
  t46 := Try.underlying29
  a46 := Try.isAgg29
  z46 := Try.sizeOf29
  v46 := Try.zeroValue29
  t51 := Try.underlying32
  a51 := Try.isAgg32
  z51 := Try.sizeOf32
  v51 := Try.zeroValue32
  t53 := Try.underlying22
  a53 := Try.isAgg22
  z53 := Try.sizeOf22
  v53 := Try.zeroValue22
  t171 := Try.underlying91
  a171 := Try.isAgg91
  z171 := Try.sizeOf91
  v171 := Try.zeroValue91
  t173 := Try.underlying94
  a173 := Try.isAgg94
  z173 := Try.sizeOf94
  v173 := Try.zeroValue94
  t212 := Try.underlying98
  a212 := Try.isAgg98
  z212 := Try.sizeOf98
  v212 := Try.zeroValue98
  t213 := Try.underlying99
  a213 := Try.isAgg99
  z213 := Try.sizeOf99
  t232 := Try.underlying103
  a232 := Try.isAgg103
  z232 := Try.sizeOf103
  v232 := Try.zeroValue103
  t233 := Try.underlying104
  a233 := Try.isAgg104
  z233 := Try.sizeOf104
  v233 := Try.zeroValue104
  g17 := by kernel_rfl
  g18 := by kernel_rfl
  g19 := by kernel_rfl }
open Go.RowKit Go.Sort Go.Lib in
/-- THE ROAD WITHOUT THE TABLE: 0 <= i < 100: NO PREMISE ON THE WORLD, AND THE WORLD IS AS IT WAS: a row that keeps its argument in that range need list no table ('laid = []'). (LAID: no walk: one application.) -/
theorem Try.strconv_Itoa_small (i : Nat) (hi : i < 100) (w : World) :
    Calls Try.prog 69 #[.int .i64 i] w fun e w' => e = .returned (.string ⟨(Lib.decDigits i).toArray⟩) ∧ w' = w := Any.strconv_Itoa_small Try.lays171 i hi w
end Go.Proofs
