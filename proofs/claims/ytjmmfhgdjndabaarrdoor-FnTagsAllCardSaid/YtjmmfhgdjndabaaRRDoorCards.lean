/-
  DERIVED. GIVEN WITH THE SEED: THE CARDS: each row of YtjmmfhgdjndabaaRRDoorRows.lean that lists a variable, with what it lists TIED to the program's text (the seventh form; the later family's looks); each row that meets fmt, with fmt's text TOLD by the authors' own Lean function (tested against real Go, not proved from fmt's source: count such statements apart). THE CARD IS WHAT COUNTS. Prove the row's statement (the work); the ties are given (YtjmmfhgdjndabaaRRDoorTie.lean); close each card by the builder's one call (the guide's Derived/Test/ToyasCard.lean, 'card_holds'). Laid BY PROGRAM, IN A SANDBOX (cutbox-door.mjs). By AI agents, Wed Nov 11 2026. No macro, syntax, notation, axiom, sorry.
-/
import Derived.Test.YtjmmfhgdjndabaaRRDoorRows
import GoSem.ClaimSeven
namespace Go.Proofs.YtjmmfhgdjndabaaRRDoor
namespace Rows

/-- THE TIED CARD OF 'laws.FnString'. -/
def fnStringCard : Claim7 := { stood := { row := fnStringRow, standIns := [], harness := (true, "d52eb89007dc6fb6c2452bb0e6d44c73b621fdce75209b07b9af502bf0a383af"), looks := false }, kinds := [], alts := [], laidByText := true, laidKinds := [.data, .pinned, .pinned, .pinned, .pinned, .pinned, .pinned], laidTests := true, laidLooks := .later }
def FnStringCardSaid : Prop := Claim7.holds Tryd.pinned (.plain (OpenSpec.ofChange fnStringSpec)) fnStringCard

/-- THE TIED CARD OF 'laws.FnAttributes'. -/
def fnAttributesCard : Claim7 := { stood := { row := fnAttributesRow, standIns := [], harness := (true, "d52eb89007dc6fb6c2452bb0e6d44c73b621fdce75209b07b9af502bf0a383af"), looks := false }, kinds := [], alts := [], laidByText := true, laidKinds := [.data, .data, .data], laidTests := true, laidLooks := .later }
def FnAttributesCardSaid : Prop := Claim7.holds Tryd.pinned (.plain (OpenSpec.ofChange fnAttributesSpec)) fnAttributesCard

/-- THE TIED CARD OF 'laws.FnTags'. -/
def fnTagsCard : Claim7 := { stood := { row := fnTagsRow, standIns := [], harness := (true, "d52eb89007dc6fb6c2452bb0e6d44c73b621fdce75209b07b9af502bf0a383af"), looks := false }, kinds := [], alts := [], laidByText := true, laidKinds := [.listed, .data, .pinned, .pinned], laidTests := true, laidLooks := .later }
def FnTagsCardSaid : Prop := Claim7.holds Tryd.pinned (.plain (OpenSpec.ofChange fnTagsSpec)) fnTagsCard

/-- THE TIED CARD OF 'laws.FnTagsAll'. -/
def fnTagsAllCard : Claim7 := { stood := { row := fnTagsAllRow, standIns := [], harness := (true, "d52eb89007dc6fb6c2452bb0e6d44c73b621fdce75209b07b9af502bf0a383af"), looks := false }, kinds := [], alts := [], laidByText := true, laidKinds := [.listed, .data, .pinned, .pinned], laidTests := true, laidLooks := .later }
def FnTagsAllCardSaid : Prop := Claim7.holds Tryd.pinned (.plain (OpenSpec.ofChange fnTagsAllSpec)) fnTagsAllCard

/-- THE SECOND FORM's CARD OF 'laws.FnString'. -/
def fnStringUptoCard : Claim7 := { stood := { row := fnStringUptoRow, standIns := [], harness := (true, "d52eb89007dc6fb6c2452bb0e6d44c73b621fdce75209b07b9af502bf0a383af"), looks := false }, kinds := [], alts := [], laidByText := true, laidKinds := [.data, .pinned, .pinned, .pinned, .pinned, .pinned, .pinned], laidTests := true, laidLooks := .later }
def FnStringUptoCardSaid : Prop := Claim7.holds Tryd.pinned (.plain (OpenSpec.upto fnStringSpec)) fnStringUptoCard

/-- THE SECOND FORM's CARD OF 'laws.FnAttributes'. -/
def fnAttributesUptoCard : Claim7 := { stood := { row := fnAttributesUptoRow, standIns := [], harness := (true, "d52eb89007dc6fb6c2452bb0e6d44c73b621fdce75209b07b9af502bf0a383af"), looks := false }, kinds := [], alts := [], laidByText := true, laidKinds := [.data, .data, .data], laidTests := true, laidLooks := .later }
def FnAttributesUptoCardSaid : Prop := Claim7.holds Tryd.pinned (.plain (OpenSpec.upto fnAttributesSpec)) fnAttributesUptoCard

/-- THE SECOND FORM's CARD OF 'laws.FnTags'. -/
def fnTagsUptoCard : Claim7 := { stood := { row := fnTagsUptoRow, standIns := [], harness := (true, "d52eb89007dc6fb6c2452bb0e6d44c73b621fdce75209b07b9af502bf0a383af"), looks := false }, kinds := [], alts := [], laidByText := true, laidKinds := [.listed, .data, .pinned, .pinned], laidTests := true, laidLooks := .later }
def FnTagsUptoCardSaid : Prop := Claim7.holds Tryd.pinned (.plain (OpenSpec.upto fnTagsSpec)) fnTagsUptoCard

/-- THE SECOND FORM's CARD OF 'laws.FnTagsAll'. -/
def fnTagsAllUptoCard : Claim7 := { stood := { row := fnTagsAllUptoRow, standIns := [], harness := (true, "d52eb89007dc6fb6c2452bb0e6d44c73b621fdce75209b07b9af502bf0a383af"), looks := false }, kinds := [], alts := [], laidByText := true, laidKinds := [.listed, .data, .pinned, .pinned], laidTests := true, laidLooks := .later }
def FnTagsAllUptoCardSaid : Prop := Claim7.holds Tryd.pinned (.plain (OpenSpec.upto fnTagsAllSpec)) fnTagsAllUptoCard
end Rows
end Go.Proofs.YtjmmfhgdjndabaaRRDoor
