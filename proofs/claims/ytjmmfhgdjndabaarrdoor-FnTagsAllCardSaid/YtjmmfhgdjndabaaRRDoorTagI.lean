/- Walk of the program's Tags. Conditions: the library's table lies as it is laid; a constraint of at most six options. -/
import Derived.Test.YtjmmfhgdjndabaaRRDoorTagK
import Derived.OwnWalk
namespace Go.Proofs.YtjmmfhgdjndabaaRRDoor
open Go.RowKit Go.Maps

set_option maxHeartbeats 1000000 in
set_option maxRecDepth 100000 in
theorem implTags_any (A : Option Addr) (cT n : Nat) (c : List (List Tm)) (h0 : c ≠ []) (ho : OkC c) (tags : Nat) (ht : tags < 256) (w : World) (hT : TabP w) (hr : RowR cellsU 1 w A (TG tags 6)) (hn : (TG tags 6).length = n) :
    Calls Tryd.prog 11 #[.string ⟨(ct c).toArray⟩, .slice A n cT] w fun e w' => e = .returned (.tuple #[.string ⟨(goC c).toArray⟩, .bool (cv tags c), .bool true]) ∧ Below w.heap.size w w' := by
  have HS := Lib.hid (parseConstraint_any c ho w hT)
  have HO := Lib.hid ho
  have HT := Lib.hid hT
  have HR := Lib.hid hr
  have HNT := Lib.hid hn
  obtain ⟨m, hm⟩ : ∃ m, c.length = m := ⟨_, rfl⟩
  have HM := Lib.hid hm
  have hm0 : 0 < m := by rw [← hm]; exact List.length_pos_iff.2 h0
  obtain ⟨N, hN⟩ : ∃ N : ByteArray, ⟨(ct c).toArray⟩ = N := ⟨_, rfl⟩
  obtain ⟨G, hG⟩ : ∃ G : ByteArray, ⟨(goC c).toArray⟩ = G := ⟨_, rfl⟩
  have HGG := Lib.hid hG
  rw [hN, hm] at HS
  rw [hN, hG]
  clear ho hT hr hm hN hG h0 hn
  go_enter Tryd.func11, Tryd.ntmps11
  go_wp2_with fail
  refine HS.out.mono ?_
  rintro e w1 ⟨A1, c1, rfl, hcon, bel1⟩
  have HC1 := Lib.hid hcon
  have HB1 := Lib.hid bel1
  have HV := Lib.hid (conValidate_any A1 c1 m c w1 hcon HM.out HO.out (HT.out.below bel1))
  clear hcon bel1
  go_wp2_with fail
  refine HV.out.mono ?_
  rintro e w2 ⟨rfl, bel2⟩
  have HC2 := Lib.hid (HC1.out.below bel2)
  have HB2 := Lib.hid (HB1.out.trans (bel2.mono HB1.out.size))
  clear bel2
  have HG := Lib.hid (conGo_any A1 c1 m c w2 HC2.out HM.out hm0 HO.out)
  rw [HGG.out] at HG
  go_wp2_with fail
  refine HG.out.mono ?_
  rintro e w3 ⟨rfl, bel3⟩
  have HC3 := Lib.hid (HC2.out.below bel3)
  have HB3 := Lib.hid (HB2.out.trans (bel3.mono HB2.out.size))
  clear bel3
  have HST := Lib.hid (setTags_any A cT n (TG tags 6) w3 (HR.out.below HB3.out) HNT.out (by have := TG_len tags 6; have := HNT.out; omega) (fun x hx => by
    obtain ⟨i, -, rfl⟩ := List.mem_map.1 hx
    have := tg_len i
    omega))
  go_wp2_with fail
  refine HST.out.mono ?_
  rintro e w4 ⟨b, rfl, hmap, bel4⟩
  have HIS : Hid (IsTags w4 b tags) := Lib.hid ⟨_, hmap⟩
  have HC4 := Lib.hid (HC3.out.below bel4)
  have HB4 := Lib.hid (HB3.out.trans (bel4.mono HB3.out.size))
  clear bel4 hmap
  have HEV := Lib.hid (conEval_any A1 c1 m c b tags ht w4 HC4.out HM.out HO.out (HT.out.below HB4.out) HIS.out)
  go_wp2_with fail
  refine HEV.out.mono ?_
  rintro e w5 ⟨rfl, bel5⟩
  have HB5 := Lib.hid (HB4.out.trans (bel5.mono HB4.out.size))
  clear bel5
  go_wp2_with fail
  go_ret3
  exact ⟨rfl, HB5.out⟩

end Go.Proofs.YtjmmfhgdjndabaaRRDoor
