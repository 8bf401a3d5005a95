/- FnAttributes' card: it returns true for every input: attributes as text are their names, joined, and they ask for the names' file exactly if there is one. Conditions: the library's tables lie as the program's text lays them (tied). -/
import Derived.Test.YtjmmfhgdjndabaaRRDoorRows
import Derived.Test.YtjmmfhgdjndabaaRRDoorTie
import Derived.Test.YtjmmfhgdjndabaaRRDoorCards
import Derived.Test.YtjmmfhgdjndabaaRRDoorAttrF
import Derived.WalkKit
import Derived.ProofKit
import Derived.OpenShut
import Derived.ChangeOld
import Derived.Below
import Derived.Lay
import Derived.SevenTiedAt
import Derived.Lib.LaidTab
namespace Go.Proofs.YtjmmfhgdjndabaaRRDoor.fnAttributes
open Go.ChangeShapes Go.WideShapes Go.ChangeAt Go.RowKit
set_option linter.unusedVariables false

theorem own : ownKnob Tryd.prog.godebug = none := by kernel_rfl

/-- The twelve bits without the eighth. -/
def cut (x : Nat) : Nat := x % 4096 &&& 18446744073709551487
theorem cut_ok : ((List.range 4096).all fun y => decide (y &&& 18446744073709551487 < 4096) && decide ((y &&& 18446744073709551487) / 128 % 2 = 0)) = true := by decide +kernel
theorem good_cut (x : Nat) : Good (cut x) := by
  have h := List.all_eq_true.1 cut_ok (x % 4096) (List.mem_range.2 (Nat.mod_lt _ (by decide)))
  simp only [Bool.and_eq_true, decide_eq_true_eq] at h
  exact h

theorem walk (x : Nat) (w : World) (hx : x < 65536) (hT : TabT w) (hs : 0 < w.heap.size) :
    Calls Tryd.prog 4 #[.int .u16 (x : Int)] w fun e w' => e = .returned (.bool true) ∧ Below w.heap.size w w' := by
  have H8 := Lib.hid (flags_any (cut x) w (good_cut x))
  have H9 : Hid (∀ W, Below w.heap.size w W → Calls Tryd.prog 9 #[.int .i64 (cut x : Nat)] W fun e w' => e = .returned (.tuple #[.string ⟨(AN (cut x)).toArray⟩, .bool (!(NB (cut x) 12).isEmpty)]) ∧ Below W.heap.size W w') :=
    Lib.hid (fun W hW => attributes_any (cut x) W (good_cut x) (hT.below hs hW) (Nat.lt_of_lt_of_le hs hW.size))
  have h1 : bits .and .i64 (x : Int) 4095 = ((x % 4096 : Nat) : Int) := by
    have := i64_and_small x 4095 hx (by decide)
    rw [show x &&& 4095 = x % 4096 from Nat.and_two_pow_sub_one_eq_mod x 12] at this
    exact this
  have h2 : bits .andNot .i64 ((x % 4096 : Nat) : Int) 128 = ((cut x : Nat) : Int) := i64_andNot_small (x % 4096) 128 (by omega) (by decide)
  obtain ⟨y, hy⟩ : ∃ y, x % 4096 = y := ⟨_, rfl⟩
  rw [hy] at h1 h2
  obtain ⟨a, ha⟩ : ∃ a, cut x = a := ⟨_, rfl⟩
  rw [ha] at h2 H8 H9
  clear hy ha hT
  obtain ⟨S, hS⟩ : ∃ S : ByteArray, ⟨(AN a).toArray⟩ = S := ⟨_, rfl⟩
  obtain ⟨B, hB⟩ : ∃ B : Bool, (!(NB a 12).isEmpty) = B := ⟨_, rfl⟩
  rw [hS, hB] at H8 H9
  clear hS hB
  go_enter Tryd.func4, Tryd.ntmps4
  go_wp2_with fail
  refine H8.out.mono ?_
  rintro e w1 ⟨rfl, hb1⟩
  have H9' := Lib.hid (H9.out w1 hb1)
  go_wp2_with fail
  refine H9'.out.mono ?_
  rintro e w2 ⟨rfl, hb2⟩
  have HB := Lib.hid (hb1.trans (hb2.mono hb1.size))
  clear hb1 hb2
  go_wp2
  go_ret
  exact ⟨rfl, HB.out⟩

/-- The library's table, as the row lists it. -/
def tab32 : List Int := [0, 1, 28, 2, 29, 14, 24, 3, 30, 22, 20, 15, 25, 17, 4, 8, 31, 27, 13, 23, 21, 19, 16, 7, 26, 12, 18, 6, 11, 5, 10, 9]
theorem tab_eq : (Rows.laid_math_bits_deBruijn32tab : DataW Unit) = Lib.tabData .u8 tab32 := by kernel_rfl
theorem gTab : Tryd.prog.globalNamed "math/bits.deBruijn32tab" = some 0 := by kernel_rfl

theorem tabT_of {W : World} (h : Lib.TabIs Tryd.prog W "math/bits.deBruijn32tab" .u8 tab32) : TabT W := by
  intro i hi
  have hc : i = 0 ∨ i = 1 ∨ i = 2 ∨ i = 3 ∨ i = 4 ∨ i = 5 ∨ i = 6 ∨ i = 7 ∨ i = 8 ∨ i = 9 ∨ i = 10 ∨ i = 11 := by omega
  rcases hc with rfl | rfl | rfl | rfl | rfl | rfl | rfl | rfl | rfl | rfl | rfl | rfl <;> exact h.cell gTab _ (by decide)

set_option maxRecDepth 100000 in
theorem lifted (os : Os) (started : os.Started) (H : Type) (enc : TypeId × Value → H) :
    ReturnsInHanded {} Tryd.checked os 4 .any (fun w args => (Rows.fnAttributesSpec.pre enc Tryd.prog Tryd.f4 [] false w args ∧ laidMetH Tryd.prog Rows.fnAttributesRow.laid w) ∧ sizedMet enc Tryd.prog Tryd.f4 (OpenSpec.ofChange Rows.fnAttributesSpec) false w args)
      (Rows.fnAttributesSpec.post enc Tryd.prog Tryd.f4 false true false false) := by
  refine returnsInHanded_of_change_and (C := Tryd.checked) (X := fun w _ => laidMetH Tryd.prog Rows.fnAttributesRow.laid w) (fun _ _ _ hh h => h.of_heap hh) own started (by kernel_rfl) Tryd.func4
    (ChangeSpec.witness_shaped (enc := enc) (C := Tryd.checked) (os := os) (X := fun w _ => laidMetH Tryd.prog Rows.fnAttributesRow.laid w) false (World.laidAll Tryd.prog os Rows.fnAttributesRow.laid) #[.int .u16 0] 8 (World.laidAll_os _ _ _)
      (World.shaped_of_ZipB (by kernel_rfl) (by kernel_rfl)) (by kernel_rfl) (by kernel_rfl) (by kernel_rfl)
      (by rw [MakeChecks.laidMetH_plain _ _ _ (by kernel_rfl)]; exact laidMet_laidAll _ (by kernel_rfl) (by kernel_rfl))) ?_
  intro W base args ds gs before hval0 hW _ _ hL _
  have hval : ∀ (j : Nat) t v, Tryd.f4.params[j]? = some t → args[j]? = some v → Value.okWide Tryd.prog W .any base t v := hval0
  have hW' := hW
  obtain ⟨p, q, hA0, hV, rfl, _, _⟩ := hW
  have hA : DataW.TrodAll enc Tryd.prog W 0 (fun _ => true) true Tryd.f4.params.toList args.toList ds p := hA0
  rw [Tryd.params4] at hA hval
  obtain ⟨v0, d0, rfl, rfl, h0⟩ := trodAll_one hA
  obtain ⟨rfl, rfl⟩ := trodVars_none hV
  obtain ⟨x, rfl, rfl, rfl, wx⟩ := open_int Tryd.underlying26 (hval 0 26 v0 rfl rfl) h0
  simp only [List.append_nil] at hW'
  have hx : 0 ≤ x ∧ x < 65536 := by
    simp [Lit.wf, IntKind.min, IntKind.max, IntKind.signed, IntKind.bits] at wx
    omega
  rw [MakeChecks.laidMetH_plain _ _ _ (by kernel_rfl)] at hL
  have hL' : laidMet Tryd.prog (("math/bits.deBruijn32tab", Lib.tabData .u8 tab32) :: [("math/bits.deBruijn64tab", Rows.laid_math_bits_deBruijn64tab), ("internal/strconv.uint64pow10", Rows.laid_internal_strconv_uint64pow10)]) W := tab_eq ▸ hL
  have hTI := Lib.tabIs_of_head gTab (by kernel_rfl) Tryd.underlying81 Tryd.underlying5 (by kernel_rfl) (by kernel_rfl) hL'
  have hT := tabT_of hTI
  have hs : 0 < W.heap.size := World.block_lt_of_cell? W ⟨0, 0, none⟩ (hT 0 (by decide))
  obtain ⟨n, rfl⟩ := Int.eq_ofNat_of_zero_le hx.1
  refine (walk n W (by omega) hT hs).mono fun e W' ⟨he, hb⟩ => ?_
  subst he
  exact ⟨_, rfl, _, _, _, [], [], [], hW', trodAll_mk1 (shut_bool Tryd.underlying4 _), trodAll_mk1 (shut_int Tryd.underlying26 wx), rfl, hb.frame _, fun h => by cases h⟩

theorem over : Rows.FnAttributesSaid :=
  OpenClaim.holds_of_wide 4 Tryd.f4 rfl rfl rfl rfl rfl rfl rfl ⟨rfl, rfl, rfl, rfl, rfl⟩ rfl rfl rfl rfl rfl (by kernel_rfl) Tryd.func4 (by kernel_rfl)
    (of_decide_eq_true (by kernel_rfl)) (by unfold Func.isWrapper; first | (rw [if_pos (by decide +kernel)]; kernel_rfl) | (rw [if_neg (by decide +kernel)]; exact ⟨rfl, rfl⟩))
    (fun os started H enc _ => lifted os started H enc)

/-- ████ THE CARD ████ -/
theorem proved : Rows.FnAttributesCardSaid :=
  Claim7.holds_tied_plain_at .later [] [.data, .data, .data] true (true, "d52eb89007dc6fb6c2452bb0e6d44c73b621fdce75209b07b9af502bf0a383af") false over (fun _ h => by cases h) (by kernel_rfl) (fun _ h => by cases h) fnAttributes_row_tie rfl ⟨rfl, rfl⟩ (by kernel_rfl) rfl
    (fun f fn hf hfn => by
      obtain rfl : f = 4 := Option.some.inj ((show Tryd.prog.funcNamed "loop.example/pub-g03449/laws.FnAttributes" = some 4 by kernel_rfl).symm.trans hf) |>.symm
      obtain rfl : fn = Tryd.f4 := (Option.some.inj (Tryd.func4.symm.trans hfn)).symm
      exact ⟨by kernel_rfl, fun j t ht => by
        rw [Tryd.params4] at ht
        have hm : t ∈ [26] := by simpa using Array.mem_of_getElem? ht
        have hall : ([26].all fun u => !Tryd.prog.wantsStandIn u) = true := by kernel_rfl
        exact (show Tryd.prog.wantsStandIn t = false by simpa using List.all_eq_true.1 hall t hm)⟩)
    (by kernel_rfl)
#print axioms proved
end Go.Proofs.YtjmmfhgdjndabaaRRDoor.fnAttributes
