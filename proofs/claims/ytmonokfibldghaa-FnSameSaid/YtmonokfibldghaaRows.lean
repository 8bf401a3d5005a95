/-
  No cell of these rows narrows 'for every input' (looked for: loops, veiled, ifaces, maps, wideKeys, modest, calm, conditions, laid).
  DERIVED. THE GIVEN ROWS OF THIS SEAT. 8 by the template 'for every input the law returns true; each argument reads behind the call as it read before'; 0 by the template 'total and deterministic' (their statements: YtmonokfibldghaaTotals.lean).
  GIVEN WITH THE SEED: the statements are not yours to turn. If you find one false, say at which input.
  Laid BY PROGRAM, IN A SANDBOX (cutbox-rows.mjs): the forced cells as the released guide's own fill.sh prints them over the translation d0e8dbff58f432f5… (all of the seat's roots in one cut). By AI agents, Wed Nov 11 2026. No macro, syntax, notation, axiom, sorry.
-/
import Derived.Test.YtmonokfibldghaaChecked
import GoSem.Claim
import GoSem.ClaimJoined
import GoSem.ClaimMapViews
import Derived.JoinedTies
import Derived.KernelRfl
namespace Go.Proofs.Ytmonokfibldghaa
/- THE CELL 'sum', in the pinned program and in every row, IS THE sha256 OF THE DUMP (.gsa) THAT YtmonokfibldghaaProg.lean LOADS. Nothing in Lean hashes anything: it is a label: what it is worth is what the hold of that sum in a sandbox is worth. -/
noncomputable def Try.pinned : Pinned := { name := "ytmonokfibldghaa", sum := "d0e8dbff58f432f5c7164bb6b11d9a6ad953a7d9e5db3629e6c814eca3981183", checked := Try.checked }
namespace Rows
def none {H : Type} : Left H := { results := [], args := [] }

/-- 'laws.FnSame': WHATEVER THE INPUT: true; the input reads as it did. -/
def fnSameSpec : ChangeSpec := { name := "fnSame", fn := fun _ => fun
  | [d1, d2] => { results := [.lit (.bool true)], args := [d1, d2] }
  | _ => none }
def fnSameRow : OpenClaim := { program := "ytmonokfibldghaa", sum := "d0e8dbff58f432f5c7164bb6b11d9a6ad953a7d9e5db3629e6c814eca3981183", func := "loop.example/pub-g03449/laws.FnSame", spec := "fnSame", unfollowed := true, recurses := true, apart := false }
def FnSameSaid : Prop := fnSameRow.holds Try.pinned (OpenSpec.ofChange fnSameSpec)

/-- ITS FALSE NEIGHBOUR: 'it returns false'. Refute it at one input. -/
def fnSameWrong : ChangeSpec := { name := "fnSame", fn := fun _ => fun
  | [d1, d2] => { results := [.lit (.bool false)], args := [d1, d2] }
  | _ => none }
def FnSameWrongFalsely : Prop := fnSameRow.holds Try.pinned (OpenSpec.ofChange fnSameWrong)

/-- 'laws.FnEqual': WHATEVER THE INPUT: true; the input reads as it did. -/
def fnEqualSpec : ChangeSpec := { name := "fnEqual", fn := fun _ => fun
  | [d1, d2, d3] => { results := [.lit (.bool true)], args := [d1, d2, d3] }
  | _ => none }
def fnEqualRow : OpenClaim := { program := "ytmonokfibldghaa", sum := "d0e8dbff58f432f5c7164bb6b11d9a6ad953a7d9e5db3629e6c814eca3981183", func := "loop.example/pub-g03449/laws.FnEqual", spec := "fnEqual", apart := false }
def FnEqualSaid : Prop := fnEqualRow.holds Try.pinned (OpenSpec.ofChange fnEqualSpec)

/-- ITS FALSE NEIGHBOUR: 'it returns false'. Refute it at one input. -/
def fnEqualWrong : ChangeSpec := { name := "fnEqual", fn := fun _ => fun
  | [d1, d2, d3] => { results := [.lit (.bool false)], args := [d1, d2, d3] }
  | _ => none }
def FnEqualWrongFalsely : Prop := fnEqualRow.holds Try.pinned (OpenSpec.ofChange fnEqualWrong)

/-- 'laws.FnAdd': WHATEVER THE INPUT: true; the input reads as it did. -/
def fnAddSpec : ChangeSpec := { name := "fnAdd", fn := fun _ => fun
  | [d1, d2] => { results := [.lit (.bool true)], args := [d1, d2] }
  | _ => none }
def fnAddRow : OpenClaim := { program := "ytmonokfibldghaa", sum := "d0e8dbff58f432f5c7164bb6b11d9a6ad953a7d9e5db3629e6c814eca3981183", func := "loop.example/pub-g03449/laws.FnAdd", spec := "fnAdd", unfollowed := true, recurses := true, apart := false }
def FnAddSaid : Prop := fnAddRow.holds Try.pinned (OpenSpec.ofChange fnAddSpec)

/-- ITS FALSE NEIGHBOUR: 'it returns false'. Refute it at one input. -/
def fnAddWrong : ChangeSpec := { name := "fnAdd", fn := fun _ => fun
  | [d1, d2] => { results := [.lit (.bool false)], args := [d1, d2] }
  | _ => none }
def FnAddWrongFalsely : Prop := fnAddRow.holds Try.pinned (OpenSpec.ofChange fnAddWrong)

/-- 'laws.FnDiscard': WHATEVER THE INPUT: true; the input reads as it did. -/
def fnDiscardSpec : ChangeSpec := { name := "fnDiscard", fn := fun _ => fun
  | [d1, d2] => { results := [.lit (.bool true)], args := [d1, d2] }
  | _ => none }
def fnDiscardRow : OpenClaim := { program := "ytmonokfibldghaa", sum := "d0e8dbff58f432f5c7164bb6b11d9a6ad953a7d9e5db3629e6c814eca3981183", func := "loop.example/pub-g03449/laws.FnDiscard", spec := "fnDiscard", unfollowed := true, recurses := true, apart := false }
def FnDiscardSaid : Prop := fnDiscardRow.holds Try.pinned (OpenSpec.ofChange fnDiscardSpec)

/-- ITS FALSE NEIGHBOUR: 'it returns false'. Refute it at one input. -/
def fnDiscardWrong : ChangeSpec := { name := "fnDiscard", fn := fun _ => fun
  | [d1, d2] => { results := [.lit (.bool false)], args := [d1, d2] }
  | _ => none }
def FnDiscardWrongFalsely : Prop := fnDiscardRow.holds Try.pinned (OpenSpec.ofChange fnDiscardWrong)

/-- 'laws.FnOfKind': WHATEVER THE INPUT: true; the input reads as it did. -/
def fnOfKindSpec : ChangeSpec := { name := "fnOfKind", fn := fun _ => fun
  | [d1, d2] => { results := [.lit (.bool true)], args := [d1, d2] }
  | _ => none }
def fnOfKindRow : OpenClaim := { program := "ytmonokfibldghaa", sum := "d0e8dbff58f432f5c7164bb6b11d9a6ad953a7d9e5db3629e6c814eca3981183", func := "loop.example/pub-g03449/laws.FnOfKind", spec := "fnOfKind", unfollowed := true, recurses := true, apart := false }
def FnOfKindSaid : Prop := fnOfKindRow.holds Try.pinned (OpenSpec.ofChange fnOfKindSpec)

/-- ITS FALSE NEIGHBOUR: 'it returns false'. Refute it at one input. -/
def fnOfKindWrong : ChangeSpec := { name := "fnOfKind", fn := fun _ => fun
  | [d1, d2] => { results := [.lit (.bool false)], args := [d1, d2] }
  | _ => none }
def FnOfKindWrongFalsely : Prop := fnOfKindRow.holds Try.pinned (OpenSpec.ofChange fnOfKindWrong)

/-- 'laws.FnSetOf': WHATEVER THE INPUT: true; the input reads as it did. -/
def fnSetOfSpec : ChangeSpec := { name := "fnSetOf", fn := fun _ => fun
  | [d] => { results := [.lit (.bool true)], args := [d] }
  | _ => none }
def fnSetOfRow : OpenClaim := { program := "ytmonokfibldghaa", sum := "d0e8dbff58f432f5c7164bb6b11d9a6ad953a7d9e5db3629e6c814eca3981183", func := "loop.example/pub-g03449/laws.FnSetOf", spec := "fnSetOf", unfollowed := true, recurses := true, apart := false }
def FnSetOfSaid : Prop := fnSetOfRow.holds Try.pinned (OpenSpec.ofChange fnSetOfSpec)

/-- ITS FALSE NEIGHBOUR: 'it returns false'. Refute it at one input. -/
def fnSetOfWrong : ChangeSpec := { name := "fnSetOf", fn := fun _ => fun
  | [d] => { results := [.lit (.bool false)], args := [d] }
  | _ => none }
def FnSetOfWrongFalsely : Prop := fnSetOfRow.holds Try.pinned (OpenSpec.ofChange fnSetOfWrong)

/-- 'laws.FnUpdate': WHATEVER THE INPUT: true; the input reads as it did. -/
def fnUpdateSpec : ChangeSpec := { name := "fnUpdate", fn := fun _ => fun
  | [d1, d2] => { results := [.lit (.bool true)], args := [d1, d2] }
  | _ => none }
def fnUpdateRow : OpenClaim := { program := "ytmonokfibldghaa", sum := "d0e8dbff58f432f5c7164bb6b11d9a6ad953a7d9e5db3629e6c814eca3981183", func := "loop.example/pub-g03449/laws.FnUpdate", spec := "fnUpdate", unfollowed := true, recurses := true, apart := false }
def FnUpdateSaid : Prop := fnUpdateRow.holds Try.pinned (OpenSpec.ofChange fnUpdateSpec)

/-- ITS FALSE NEIGHBOUR: 'it returns false'. Refute it at one input. -/
def fnUpdateWrong : ChangeSpec := { name := "fnUpdate", fn := fun _ => fun
  | [d1, d2] => { results := [.lit (.bool false)], args := [d1, d2] }
  | _ => none }
def FnUpdateWrongFalsely : Prop := fnUpdateRow.holds Try.pinned (OpenSpec.ofChange fnUpdateWrong)

/-- 'laws.FnDifference': WHATEVER THE INPUT: true; the input reads as it did. -/
def fnDifferenceSpec : ChangeSpec := { name := "fnDifference", fn := fun _ => fun
  | [d1, d2] => { results := [.lit (.bool true)], args := [d1, d2] }
  | _ => none }
def fnDifferenceRow : OpenClaim := { program := "ytmonokfibldghaa", sum := "d0e8dbff58f432f5c7164bb6b11d9a6ad953a7d9e5db3629e6c814eca3981183", func := "loop.example/pub-g03449/laws.FnDifference", spec := "fnDifference", unfollowed := true, recurses := true, apart := false }
def FnDifferenceSaid : Prop := fnDifferenceRow.holds Try.pinned (OpenSpec.ofChange fnDifferenceSpec)

/-- ITS FALSE NEIGHBOUR: 'it returns false'. Refute it at one input. -/
def fnDifferenceWrong : ChangeSpec := { name := "fnDifference", fn := fun _ => fun
  | [d1, d2] => { results := [.lit (.bool false)], args := [d1, d2] }
  | _ => none }
def FnDifferenceWrongFalsely : Prop := fnDifferenceRow.holds Try.pinned (OpenSpec.ofChange fnDifferenceWrong)

/- THE SECOND FORM. 'bulk': how many values and letters a reading holds, each counted each time it is reached (what is shared counts as often as it is met; a slice's spare places count too). A statement '..UptoSaid' is the law's where the arguments, and the package variables that the reading takes, are together of bulk at most 1048576: NARROWER than '..Said'. Prove '..Said' where nothing that the law and all that it calls make is longer than what came in: it says more and counts as full. Else prove '..UptoSaid'. A law counts once. -/
mutual
def uptoBulk {H : Type} : DataW H → Nat
  | .lit (.string bytes) => bytes.length + 1
  | .lit _ => 1
  | .nil => 1
  | .ptr d => uptoBulk d + 1
  | .slice elems spare => uptoBulkAll elems + uptoBulkAll spare + 1
  | .agg parts => uptoBulkAll parts + 1
  | .iface _ d => uptoBulk d + 1
  | .map entries => uptoBulkEntries entries + 1
  | .held _ => 1
def uptoBulkAll {H : Type} : List (DataW H) → Nat
  | [] => 0
  | d :: r => uptoBulk d + uptoBulkAll r
def uptoBulkEntries {H : Type} : List (Lit × DataW H) → Nat
  | [] => 0
  | x :: r => uptoBulkEntry x + uptoBulkEntries r
def uptoBulkEntry {H : Type} : Lit × DataW H → Nat
  | (.string bytes, d) => bytes.length + uptoBulk d + 1
  | (_, d) => uptoBulk d + 1
 end
def uptoSmall : (H : Type) → List (DataW H) → Bool := fun _ ds => decide (uptoBulkAll ds ≤ 1048576)
def OpenSpec.upto (s : _root_.Go.ChangeSpec) : _root_.Go.OpenSpec := { _root_.Go.OpenSpec.ofChange s with cond := some uptoSmall }

/-- 'laws.FnSame', WHERE WHAT IT READS IS OF BULK AT MOST 1048576: true; the input reads as it did. -/
def fnSameUptoRow : OpenClaim := { program := "ytmonokfibldghaa", sum := "d0e8dbff58f432f5c7164bb6b11d9a6ad953a7d9e5db3629e6c814eca3981183", func := "loop.example/pub-g03449/laws.FnSame", spec := "fnSame", unfollowed := true, recurses := true, apart := false, narrowed := true }
def FnSameUptoSaid : Prop := fnSameUptoRow.holds Try.pinned (OpenSpec.upto fnSameSpec)

/-- 'laws.FnEqual', WHERE WHAT IT READS IS OF BULK AT MOST 1048576: true; the input reads as it did. -/
def fnEqualUptoRow : OpenClaim := { program := "ytmonokfibldghaa", sum := "d0e8dbff58f432f5c7164bb6b11d9a6ad953a7d9e5db3629e6c814eca3981183", func := "loop.example/pub-g03449/laws.FnEqual", spec := "fnEqual", apart := false, narrowed := true }
def FnEqualUptoSaid : Prop := fnEqualUptoRow.holds Try.pinned (OpenSpec.upto fnEqualSpec)

/-- 'laws.FnAdd', WHERE WHAT IT READS IS OF BULK AT MOST 1048576: true; the input reads as it did. -/
def fnAddUptoRow : OpenClaim := { program := "ytmonokfibldghaa", sum := "d0e8dbff58f432f5c7164bb6b11d9a6ad953a7d9e5db3629e6c814eca3981183", func := "loop.example/pub-g03449/laws.FnAdd", spec := "fnAdd", unfollowed := true, recurses := true, apart := false, narrowed := true }
def FnAddUptoSaid : Prop := fnAddUptoRow.holds Try.pinned (OpenSpec.upto fnAddSpec)

/-- 'laws.FnDiscard', WHERE WHAT IT READS IS OF BULK AT MOST 1048576: true; the input reads as it did. -/
def fnDiscardUptoRow : OpenClaim := { program := "ytmonokfibldghaa", sum := "d0e8dbff58f432f5c7164bb6b11d9a6ad953a7d9e5db3629e6c814eca3981183", func := "loop.example/pub-g03449/laws.FnDiscard", spec := "fnDiscard", unfollowed := true, recurses := true, apart := false, narrowed := true }
def FnDiscardUptoSaid : Prop := fnDiscardUptoRow.holds Try.pinned (OpenSpec.upto fnDiscardSpec)

/-- 'laws.FnOfKind', WHERE WHAT IT READS IS OF BULK AT MOST 1048576: true; the input reads as it did. -/
def fnOfKindUptoRow : OpenClaim := { program := "ytmonokfibldghaa", sum := "d0e8dbff58f432f5c7164bb6b11d9a6ad953a7d9e5db3629e6c814eca3981183", func := "loop.example/pub-g03449/laws.FnOfKind", spec := "fnOfKind", unfollowed := true, recurses := true, apart := false, narrowed := true }
def FnOfKindUptoSaid : Prop := fnOfKindUptoRow.holds Try.pinned (OpenSpec.upto fnOfKindSpec)

/-- 'laws.FnSetOf', WHERE WHAT IT READS IS OF BULK AT MOST 1048576: true; the input reads as it did. -/
def fnSetOfUptoRow : OpenClaim := { program := "ytmonokfibldghaa", sum := "d0e8dbff58f432f5c7164bb6b11d9a6ad953a7d9e5db3629e6c814eca3981183", func := "loop.example/pub-g03449/laws.FnSetOf", spec := "fnSetOf", unfollowed := true, recurses := true, apart := false, narrowed := true }
def FnSetOfUptoSaid : Prop := fnSetOfUptoRow.holds Try.pinned (OpenSpec.upto fnSetOfSpec)

/-- 'laws.FnUpdate', WHERE WHAT IT READS IS OF BULK AT MOST 1048576: true; the input reads as it did. -/
def fnUpdateUptoRow : OpenClaim := { program := "ytmonokfibldghaa", sum := "d0e8dbff58f432f5c7164bb6b11d9a6ad953a7d9e5db3629e6c814eca3981183", func := "loop.example/pub-g03449/laws.FnUpdate", spec := "fnUpdate", unfollowed := true, recurses := true, apart := false, narrowed := true }
def FnUpdateUptoSaid : Prop := fnUpdateUptoRow.holds Try.pinned (OpenSpec.upto fnUpdateSpec)

/-- 'laws.FnDifference', WHERE WHAT IT READS IS OF BULK AT MOST 1048576: true; the input reads as it did. -/
def fnDifferenceUptoRow : OpenClaim := { program := "ytmonokfibldghaa", sum := "d0e8dbff58f432f5c7164bb6b11d9a6ad953a7d9e5db3629e6c814eca3981183", func := "loop.example/pub-g03449/laws.FnDifference", spec := "fnDifference", unfollowed := true, recurses := true, apart := false, narrowed := true }
def FnDifferenceUptoSaid : Prop := fnDifferenceUptoRow.holds Try.pinned (OpenSpec.upto fnDifferenceSpec)

end Rows
end Go.Proofs.Ytmonokfibldghaa
