/- The library's strings.Join and strconv.Itoa at this program (written by lay-plain.mjs). Conditions: none. -/
import Derived.Shelf.Strings.OnBuilder
import Derived.Shelf.Strconv.Itoa3
import Derived.Test.YtjmmfhgdjndabaaRRDoorProg
namespace Go.Proofs
open Go.Shelf
def Tryd.lays156_ren : Go.Shelf.Ren := ⟨fun | 156 => 31 | 165 => 41 | 166 => 42 | 169 => 43 | 240 => 51 | 241 => 52 | 276 => 66 | 277 => 67 | n => n, fun | 31 => 33 | 9 => 9 | 3 => 3 | 4 => 4 | 0 => 0 | 20 => 20 | 72 => 74 | 76 => 76 | 70 => 72 | 37 => 22 | 75 => 50 | 127 => 84 | 164 => 98 | 5 => 5 | 80 => 41 | n => n, fun | n => n⟩
theorem Tryd.lays156 : Go.Proofs.Lays.n156 Tryd.prog Tryd.lays156_ren := {
  mixed := by kernel_rfl
  f156 := Tryd.func31.trans (congrArg some (by kernel_rfl))
  f165 := Tryd.func41.trans (congrArg some (by kernel_rfl))
  f166 := Tryd.func42.trans (congrArg some (by kernel_rfl))
  f169 := Tryd.func43.trans (congrArg some (by kernel_rfl))
  f240 := Tryd.func51.trans (congrArg some (by kernel_rfl))
  f241 := Tryd.func52.trans (congrArg some (by kernel_rfl))
  f276 := Tryd.func66.trans (congrArg some (by kernel_rfl))
  f277 := Tryd.func67.trans (congrArg some (by kernel_rfl))
  t0 := Tryd.underlying0
  a0 := Tryd.isAgg0
  z0 := Tryd.sizeOf0
  v0 := Tryd.zeroValue0
  t3 := Tryd.underlying3
  a3 := Tryd.isAgg3
  z3 := Tryd.sizeOf3
  v3 := Tryd.zeroValue3
  t4 := Tryd.underlying4
  a4 := Tryd.isAgg4
  z4 := Tryd.sizeOf4
  v4 := Tryd.zeroValue4
  t9 := Tryd.underlying9
  a9 := Tryd.isAgg9
  z9 := Tryd.sizeOf9
  v9 := Tryd.zeroValue9
  t20 := Tryd.underlying20
  a20 := Tryd.isAgg20
  z20 := Tryd.sizeOf20
  v20 := Tryd.zeroValue20
  t31 := Tryd.underlying33
  a31 := Tryd.isAgg33
  z31 := Tryd.sizeOf33
  v31 := Tryd.zeroValue33
  t37 := Tryd.underlying22
  a37 := Tryd.isAgg22
  z37 := Tryd.sizeOf22
  v37 := Tryd.zeroValue22
  t70 := Tryd.underlying72
  a70 := Tryd.isAgg72
  z70 := Tryd.sizeOf72
  v70 := Tryd.zeroValue72
  t72 := Tryd.underlying74
  a72 := Tryd.isAgg74
  z72 := Tryd.sizeOf74
  v72 := Tryd.zeroValue74
  t75 := Tryd.underlying50
  a75 := Tryd.isAgg50
  z75 := Tryd.sizeOf50
  v75 := Tryd.zeroValue50
  t76 := Tryd.underlying76
  a76 := Tryd.isAgg76
  z76 := Tryd.sizeOf76
  v76 := Tryd.zeroValue76
  t127 := Tryd.underlying84
  a127 := Tryd.isAgg84
  z127 := Tryd.sizeOf84
  v127 := Tryd.zeroValue84
  t164 := Tryd.underlying98
  a164 := Tryd.isAgg98
  z164 := Tryd.sizeOf98
  v164 := Tryd.zeroValue98 }
theorem Tryd.Builder_Extra_156 : Builder.Extra Tryd.prog Tryd.lays156_ren := {
  sizeBuilder := by kernel_rfl
  liesBuilder := by kernel_rfl
  t5 := Tryd.underlying5
  a5 := Tryd.isAgg5
  z5 := Tryd.sizeOf5
  v5 := Tryd.zeroValue5
  infoByte := by kernel_rfl
  cellsByte := by kernel_rfl
  sizeByte := by kernel_rfl
  neB5 := by decide }
open Go.RowKit in
/-- No element: the empty string; the world is as it was. (Whatever the slice's address and capacity: a nil slice too.) (LAID: no walk: one application.) -/
theorem Tryd.strings_Join_none (a : Option Addr) (c : Nat) (sep : ByteArray) (w : World) :
    Calls Tryd.prog 31 #[.slice a 0 c, .string sep] w fun e w' => e = .returned (.string ⟨#[]⟩) ∧ w' = w := Any.strings_Join_none Tryd.lays156 Tryd.Builder_Extra_156 a c sep w
open Go.RowKit in
/-- strings.Join: "Join concatenates the elements of its first argument to create a single string. The separator string sep is placed between elements in the resulting string.": HOWEVER MANY ELEMENTS. Below the heap's end the world is as it was. (LAID: no walk: one application.) -/
theorem Tryd.strings_Join (bk o c : Nat) (xs : List ByteArray) (sep : ByteArray) (w : World) (hcells : ∀ (j : Nat) x, xs[j]? = some x → w.cell? ⟨bk, o + j, none⟩ = some (.string x)) (hbk : bk < w.heap.size) (hN : xs.length ≤ 140737488355328) (hcap : xs.length ≤ c) (hlen : (Lib.join (xs.map (·.data.toList)) sep.data.toList).length ≤ 140737488355328) :
    Calls Tryd.prog 31 #[.slice (some ⟨bk, o, none⟩) xs.length c, .string sep] w fun e w' => e = .returned (.string ⟨(Lib.join (xs.map (·.data.toList)) sep.data.toList).toArray⟩) ∧ Below w.heap.size w w' := Any.strings_Join Tryd.lays156 Tryd.Builder_Extra_156 bk o c xs sep w hcells hbk hN hcap hlen
def Tryd.lays171_ren : Go.Shelf.Ren := ⟨fun | 171 => 30 | 243 => 40 | 246 => 50 | 283 => 62 | 284 => 63 | 285 => 64 | 286 => 65 | 129 => 78 | 317 => 77 | 318 => 79 | 319 => 80 | 320 => 81 | 337 => 86 | 338 => 87 | n => n, fun | 3 => 3 | 9 => 9 | 2 => 2 | 4 => 4 | 171 => 92 | 0 => 0 | 53 => 93 | 37 => 22 | 5 => 5 | 173 => 96 | 212 => 119 | 51 => 82 | 20 => 20 | 213 => 120 | 46 => 46 | 232 => 81 | 233 => 134 | n => n, fun | 17 => 5 | 18 => 0 | 19 => 14 | n => n⟩
theorem Tryd.lays171 : Go.Proofs.Lays.n171 Tryd.prog Tryd.lays171_ren := {
  mixed := by kernel_rfl
  f129 := Tryd.func78.trans (congrArg some (by kernel_rfl))
  f171 := Tryd.func30.trans (congrArg some (by kernel_rfl))
  f243 := Tryd.func40.trans (congrArg some (by kernel_rfl))
  f246 := Tryd.func50.trans (congrArg some (by kernel_rfl))
  f283 := Tryd.func62.trans (congrArg some (by kernel_rfl))
  f284 := Tryd.func63.trans (congrArg some (by kernel_rfl))
  f285 := Tryd.func64.trans (congrArg some (by kernel_rfl))
  f286 := Tryd.func65.trans (congrArg some (by kernel_rfl))
  f317 := Tryd.func77.trans (congrArg some (by kernel_rfl))
  f318 := Tryd.func79.trans (congrArg some (by kernel_rfl))
  f319 := Tryd.func80.trans (congrArg some (by kernel_rfl))
  f320 := Tryd.func81.trans (congrArg some (by kernel_rfl))
  f337 := Tryd.func86.trans (congrArg some (by kernel_rfl))
  f338 := Tryd.func87.trans (congrArg some (by kernel_rfl))
  t0 := Tryd.underlying0
  a0 := Tryd.isAgg0
  z0 := Tryd.sizeOf0
  v0 := Tryd.zeroValue0
  t2 := Tryd.underlying2
  a2 := Tryd.isAgg2
  z2 := Tryd.sizeOf2
  v2 := Tryd.zeroValue2
  t3 := Tryd.underlying3
  a3 := Tryd.isAgg3
  z3 := Tryd.sizeOf3
  v3 := Tryd.zeroValue3
  t4 := Tryd.underlying4
  a4 := Tryd.isAgg4
  z4 := Tryd.sizeOf4
  v4 := Tryd.zeroValue4
  t5 := Tryd.underlying5
  a5 := Tryd.isAgg5
  z5 := Tryd.sizeOf5
  v5 := Tryd.zeroValue5
  t9 := Tryd.underlying9
  a9 := Tryd.isAgg9
  z9 := Tryd.sizeOf9
  v9 := Tryd.zeroValue9
  t20 := Tryd.underlying20
  a20 := Tryd.isAgg20
  z20 := Tryd.sizeOf20
  v20 := Tryd.zeroValue20
  t37 := Tryd.underlying22
  a37 := Tryd.isAgg22
  z37 := Tryd.sizeOf22
  v37 := Tryd.zeroValue22
  t46 := Tryd.underlying46
  a46 := Tryd.isAgg46
  z46 := Tryd.sizeOf46
  v46 := Tryd.zeroValue46
  t51 := Tryd.underlying82
  a51 := Tryd.isAgg82
  z51 := Tryd.sizeOf82
  v51 := Tryd.zeroValue82
  t53 := Tryd.underlying93
  a53 := Tryd.isAgg93
  z53 := Tryd.sizeOf93
  v53 := Tryd.zeroValue93
  t171 := Tryd.underlying92
  a171 := Tryd.isAgg92
  z171 := Tryd.sizeOf92
  v171 := Tryd.zeroValue92
  t173 := Tryd.underlying96
  a173 := Tryd.isAgg96
  z173 := Tryd.sizeOf96
  v173 := Tryd.zeroValue96
  t212 := Tryd.underlying119
  a212 := Tryd.isAgg119
  z212 := Tryd.sizeOf119
  v212 := Tryd.zeroValue119
  t213 := Tryd.underlying120
  a213 := Tryd.isAgg120
  z213 := Tryd.sizeOf120
  t232 := Tryd.underlying81
  a232 := Tryd.isAgg81
  z232 := Tryd.sizeOf81
  v232 := Tryd.zeroValue81
  t233 := Tryd.underlying134
  a233 := Tryd.isAgg134
  z233 := Tryd.sizeOf134
  v233 := Tryd.zeroValue134
  g17 := by kernel_rfl
  g18 := by kernel_rfl
  g19 := by kernel_rfl }
open Go.RowKit Go.Sort Go.Lib in
/-- THE ROAD WITHOUT THE TABLE: 0 <= i < 100: NO PREMISE ON THE WORLD, AND THE WORLD IS AS IT WAS: a row that keeps its argument in that range need list no table ('laid = []'). (LAID: no walk: one application.) -/
theorem Tryd.strconv_Itoa_small (i : Nat) (hi : i < 100) (w : World) :
    Calls Tryd.prog 30 #[.int .i64 i] w fun e w' => e = .returned (.string ⟨(Lib.decDigits i).toArray⟩) ∧ w' = w := Any.strconv_Itoa_small Tryd.lays171 i hi w
end Go.Proofs
