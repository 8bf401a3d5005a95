/- The library's strconv.Quote at this program: its bodies and types are the ones that the shelf's contract asks (written by lay-plain.mjs). Conditions: none. -/
import Derived.Shelf.Strconv.Quote
import Derived.Test.YtjmmfhgdjndabaaRRDoorProg
namespace Go.Proofs
open Go.Shelf
def Tryd.lays177_ren : Go.Shelf.Ren := ⟨fun | 177 => 28 | 250 => 37 | 289 => 49 | 197 => 60 | 323 => 61 | 260 => 72 | 339 => 73 | 340 => 74 | 242 => 75 | 119 => 76 | 345 => 83 | 346 => 84 | 278 => 85 | n => n, fun | 9 => 9 | 5 => 5 | 4 => 4 | 3 => 3 | 37 => 22 | 21 => 21 | 105 => 89 | 46 => 46 | 119 => 115 | 0 => 0 | 139 => 127 | 138 => 126 | 49 => 26 | 234 => 128 | 131 => 129 | 51 => 82 | 236 => 131 | n => n, fun | 3 => 7 | 4 => 8 | 20 => 9 | 21 => 10 | 22 => 11 | 23 => 12 | 24 => 13 | n => n⟩
theorem Tryd.lays177 : Go.Proofs.Lays.n177 Tryd.prog Tryd.lays177_ren := {
  mixed := by kernel_rfl
  f119 := Tryd.func76.trans (congrArg some (by kernel_rfl))
  f177 := Tryd.func28.trans (congrArg some (by kernel_rfl))
  f197 := Tryd.func60.trans (congrArg some (by kernel_rfl))
  f242 := Tryd.func75.trans (congrArg some (by kernel_rfl))
  f250 := Tryd.func37.trans (congrArg some (by kernel_rfl))
  f260 := Tryd.func72.trans (congrArg some (by kernel_rfl))
  f278 := Tryd.func85.trans (congrArg some (by kernel_rfl))
  f289 := Tryd.func49.trans (congrArg some (by kernel_rfl))
  f323 := Tryd.func61.trans (congrArg some (by kernel_rfl))
  f339 := Tryd.func73.trans (congrArg some (by kernel_rfl))
  f340 := Tryd.func74.trans (congrArg some (by kernel_rfl))
  f345 := Tryd.func83.trans (congrArg some (by kernel_rfl))
  f346 := Tryd.func84.trans (congrArg some (by kernel_rfl))
  t0 := Tryd.underlying0
  a0 := Tryd.isAgg0
  z0 := Tryd.sizeOf0
  v0 := Tryd.zeroValue0
  t3 := Tryd.underlying3
  a3 := Tryd.isAgg3
  z3 := Tryd.sizeOf3
  v3 := Tryd.zeroValue3
  t4 := Tryd.underlying4
  a4 := Tryd.isAgg4
  z4 := Tryd.sizeOf4
  v4 := Tryd.zeroValue4
  t5 := Tryd.underlying5
  a5 := Tryd.isAgg5
  z5 := Tryd.sizeOf5
  v5 := Tryd.zeroValue5
  t9 := Tryd.underlying9
  a9 := Tryd.isAgg9
  z9 := Tryd.sizeOf9
  v9 := Tryd.zeroValue9
  t21 := Tryd.underlying21
  a21 := Tryd.isAgg21
  z21 := Tryd.sizeOf21
  v21 := Tryd.zeroValue21
  t37 := Tryd.underlying22
  a37 := Tryd.isAgg22
  z37 := Tryd.sizeOf22
  v37 := Tryd.zeroValue22
  t46 := Tryd.underlying46
  a46 := Tryd.isAgg46
  z46 := Tryd.sizeOf46
  v46 := Tryd.zeroValue46
  t49 := Tryd.underlying26
  a49 := Tryd.isAgg26
  z49 := Tryd.sizeOf26
  v49 := Tryd.zeroValue26
  t51 := Tryd.underlying82
  a51 := Tryd.isAgg82
  z51 := Tryd.sizeOf82
  v51 := Tryd.zeroValue82
  t105 := Tryd.underlying89
  a105 := Tryd.isAgg89
  z105 := Tryd.sizeOf89
  v105 := Tryd.zeroValue89
  t119 := Tryd.underlying115
  a119 := Tryd.isAgg115
  z119 := Tryd.sizeOf115
  t131 := Tryd.underlying129
  a131 := Tryd.isAgg129
  z131 := Tryd.sizeOf129
  v131 := Tryd.zeroValue129
  t138 := Tryd.underlying126
  a138 := Tryd.isAgg126
  z138 := Tryd.sizeOf126
  v138 := Tryd.zeroValue126
  t139 := Tryd.underlying127
  a139 := Tryd.isAgg127
  z139 := Tryd.sizeOf127
  v139 := Tryd.zeroValue127
  t234 := Tryd.underlying128
  a234 := Tryd.isAgg128
  z234 := Tryd.sizeOf128
  v234 := Tryd.zeroValue128
  t236 := Tryd.underlying131
  a236 := Tryd.isAgg131
  z236 := Tryd.sizeOf131
  v236 := Tryd.zeroValue131
  g3 := by kernel_rfl
  g4 := by kernel_rfl
  g20 := by kernel_rfl
  g21 := by kernel_rfl
  g22 := by kernel_rfl
  g23 := by kernel_rfl
  g24 := by kernel_rfl }
open Go.RowKit in
/-- **strconv.Quote AT EVERY STRING, VALID UTF-8 OR NOT** (of at most some 2^43 bytes: ten bytes may come of one): 'strOfNums (Lib.quoteZ T s)': Derived/Lib/QuoteLoop.lean: a row of Lean a statement of Go. Of what was there nothing has turned. (LAID: no walk: one application.) -/
theorem Tryd.strconv_Quote (T : Lib.PrintTabs) (s : ByteArray) (w : World) (hlen : 10 * s.size + 12 ≤ 140737488355328) (hT : Lib.PrintTabsAt 9 10 11 12 T w) (hU : Lib.Utf8Tabs 7 8 w) :
    Calls Tryd.prog 28 #[.string s] w fun e w' => e = .returned (.string (strOfNums (Lib.quoteZ T s))) ∧ Below w.heap.size w w' := Any.strconv_Quote Tryd.lays177 (by kernel_rfl) T s w hlen hT hU
end Go.Proofs
