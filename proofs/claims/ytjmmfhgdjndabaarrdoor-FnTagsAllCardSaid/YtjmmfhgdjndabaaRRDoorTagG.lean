/- The table of signs, out of what a card's list says. Conditions: none. -/
import Derived.Test.YtjmmfhgdjndabaaRRDoorRows
import Derived.Test.YtjmmfhgdjndabaaRRDoorTagW
import Derived.Lib.LaidTab
import Derived.Lib.LaidU8
namespace Go.Proofs.YtjmmfhgdjndabaaRRDoor
open Go.Lib

theorem props_eq : (Rows.laid_unicode_properties : DataW Unit) = Lib.tabData .u8 Lib.propertiesTab := by kernel_rfl
theorem gProps : Tryd.prog.globalNamed "unicode.properties" = some 2 := by kernel_rfl
theorem tabP_of_reads {W : World} (h : VarReads Tryd.prog W "unicode.properties" Rows.laid_unicode_properties) : TabP W := by
  rw [props_eq] at h
  obtain ⟨g, t, cs, fuel, p, hg, ht, hvar, hd⟩ := h
  obtain rfl := Option.some.inj (gProps.symm.trans hg)
  have hty : (Tryd.prog.globals[2]?).map (·.type) = some 115 := by kernel_rfl
  obtain rfl := Option.some.inj (hty.symm.trans ht)
  have e := cells_of_tab Tryd.underlying115 Tryd.underlying5 (by kernel_rfl) (by kernel_rfl) hd
  unfold TabP TabIs
  rw [hvar, ← e]

end Go.Proofs.YtjmmfhgdjndabaaRRDoor
