/- Walks of the attributes' callees: which bit is the lowest, the table of names, the names of a number's bits. Conditions: the library's table lies as it is laid; twelve bits, the eighth not set. -/
import Derived.Test.YtjmmfhgdjndabaaRRDoorAttrP
import Derived.Test.YtjmmfhgdjndabaaRRDoorRows2
import Derived.WalkKit
import Derived.WalkLawsBesides
import Derived.WalkSpells
import Derived.Maps.RangeWalk
import Derived.Below
import Derived.Handy
import Derived.LoopTactic
import Derived.Lib.Hide
namespace Go.Proofs.YtjmmfhgdjndabaaRRDoor
open Go.RowKit Go.Maps

/-- Where the library's table has a bit's number. -/
def tix : Nat → Nat
  | 0 => 0
  | 1 => 1
  | 2 => 3
  | 3 => 7
  | 4 => 14
  | 5 => 29
  | 6 => 27
  | 7 => 23
  | 8 => 15
  | 9 => 31
  | 10 => 30
  | _ => 28
/-- The table lies as it is laid, at the twelve places that are asked. -/
def TabT (w : World) : Prop := ∀ i, i < 12 → w.cell? ⟨0, tix i, none⟩ = some (.int .u8 (i : Int))
theorem TabT.below {w w' : World} (h : TabT w) (hs : 0 < w.heap.size) (hb : Below w.heap.size w w') : TabT w' := fun i hi => (hb.cell (p := ⟨0, tix i, none⟩) hs).trans (h i hi)

theorem low_and {a i : Nat} (ha : Good a) (h0 : 0 < a) (hi : lo a = i) : bits .and .u16 (a : Int) (IntKind.u16.wrap (-(a : Int))) = ((2 ^ i : Nat) : Int) := by
  have h4 := (lo_facts ha h0).2.2.2.1
  have h1 := ha.1
  have e : IntKind.u16.wrap (-(a : Int)) = ((65536 - a : Nat) : Int) := by rw [IntKind.wrap_u16]; omega
  rw [e, u16_and_nat a (65536 - a) (by omega) (by omega), h4, hi]

theorem tz_0 (a : Nat) (w : World) (ha : Good a) (h0 : 0 < a) (hi : lo a = 0) (hT : TabT w) :
    Calls Tryd.prog 38 #[.int .u16 (a : Int)] w fun e w' => e = .returned (.int .i64 0) ∧ w = w' := by
  have h1 : ((a : Int) == 0) = false := by simp; omega
  have h2 : bits .and .u16 (a : Int) (IntKind.u16.wrap (-(a : Int))) = 1 := low_and ha h0 hi
  have h3 : w.cell? ⟨0, 0, none⟩ = some (.int .u8 0) := hT 0 (by decide)
  clear ha h0 hi hT
  go_enter Tryd.func38, Tryd.ntmps38
  go_wp2
  go_ret
  exact ⟨rfl, rfl⟩
theorem tz_1 (a : Nat) (w : World) (ha : Good a) (h0 : 0 < a) (hi : lo a = 1) (hT : TabT w) :
    Calls Tryd.prog 38 #[.int .u16 (a : Int)] w fun e w' => e = .returned (.int .i64 1) ∧ w = w' := by
  have h1 : ((a : Int) == 0) = false := by simp; omega
  have h2 : bits .and .u16 (a : Int) (IntKind.u16.wrap (-(a : Int))) = 2 := low_and ha h0 hi
  have h3 : w.cell? ⟨0, 1, none⟩ = some (.int .u8 1) := hT 1 (by decide)
  clear ha h0 hi hT
  go_enter Tryd.func38, Tryd.ntmps38
  go_wp2
  go_ret
  exact ⟨rfl, rfl⟩
theorem tz_2 (a : Nat) (w : World) (ha : Good a) (h0 : 0 < a) (hi : lo a = 2) (hT : TabT w) :
    Calls Tryd.prog 38 #[.int .u16 (a : Int)] w fun e w' => e = .returned (.int .i64 2) ∧ w = w' := by
  have h1 : ((a : Int) == 0) = false := by simp; omega
  have h2 : bits .and .u16 (a : Int) (IntKind.u16.wrap (-(a : Int))) = 4 := low_and ha h0 hi
  have h3 : w.cell? ⟨0, 3, none⟩ = some (.int .u8 2) := hT 2 (by decide)
  clear ha h0 hi hT
  go_enter Tryd.func38, Tryd.ntmps38
  go_wp2
  go_ret
  exact ⟨rfl, rfl⟩
theorem tz_3 (a : Nat) (w : World) (ha : Good a) (h0 : 0 < a) (hi : lo a = 3) (hT : TabT w) :
    Calls Tryd.prog 38 #[.int .u16 (a : Int)] w fun e w' => e = .returned (.int .i64 3) ∧ w = w' := by
  have h1 : ((a : Int) == 0) = false := by simp; omega
  have h2 : bits .and .u16 (a : Int) (IntKind.u16.wrap (-(a : Int))) = 8 := low_and ha h0 hi
  have h3 : w.cell? ⟨0, 7, none⟩ = some (.int .u8 3) := hT 3 (by decide)
  clear ha h0 hi hT
  go_enter Tryd.func38, Tryd.ntmps38
  go_wp2
  go_ret
  exact ⟨rfl, rfl⟩
theorem tz_4 (a : Nat) (w : World) (ha : Good a) (h0 : 0 < a) (hi : lo a = 4) (hT : TabT w) :
    Calls Tryd.prog 38 #[.int .u16 (a : Int)] w fun e w' => e = .returned (.int .i64 4) ∧ w = w' := by
  have h1 : ((a : Int) == 0) = false := by simp; omega
  have h2 : bits .and .u16 (a : Int) (IntKind.u16.wrap (-(a : Int))) = 16 := low_and ha h0 hi
  have h3 : w.cell? ⟨0, 14, none⟩ = some (.int .u8 4) := hT 4 (by decide)
  clear ha h0 hi hT
  go_enter Tryd.func38, Tryd.ntmps38
  go_wp2
  go_ret
  exact ⟨rfl, rfl⟩
theorem tz_5 (a : Nat) (w : World) (ha : Good a) (h0 : 0 < a) (hi : lo a = 5) (hT : TabT w) :
    Calls Tryd.prog 38 #[.int .u16 (a : Int)] w fun e w' => e = .returned (.int .i64 5) ∧ w = w' := by
  have h1 : ((a : Int) == 0) = false := by simp; omega
  have h2 : bits .and .u16 (a : Int) (IntKind.u16.wrap (-(a : Int))) = 32 := low_and ha h0 hi
  have h3 : w.cell? ⟨0, 29, none⟩ = some (.int .u8 5) := hT 5 (by decide)
  clear ha h0 hi hT
  go_enter Tryd.func38, Tryd.ntmps38
  go_wp2
  go_ret
  exact ⟨rfl, rfl⟩
theorem tz_6 (a : Nat) (w : World) (ha : Good a) (h0 : 0 < a) (hi : lo a = 6) (hT : TabT w) :
    Calls Tryd.prog 38 #[.int .u16 (a : Int)] w fun e w' => e = .returned (.int .i64 6) ∧ w = w' := by
  have h1 : ((a : Int) == 0) = false := by simp; omega
  have h2 : bits .and .u16 (a : Int) (IntKind.u16.wrap (-(a : Int))) = 64 := low_and ha h0 hi
  have h3 : w.cell? ⟨0, 27, none⟩ = some (.int .u8 6) := hT 6 (by decide)
  clear ha h0 hi hT
  go_enter Tryd.func38, Tryd.ntmps38
  go_wp2
  go_ret
  exact ⟨rfl, rfl⟩
theorem tz_8 (a : Nat) (w : World) (ha : Good a) (h0 : 0 < a) (hi : lo a = 8) (hT : TabT w) :
    Calls Tryd.prog 38 #[.int .u16 (a : Int)] w fun e w' => e = .returned (.int .i64 8) ∧ w = w' := by
  have h1 : ((a : Int) == 0) = false := by simp; omega
  have h2 : bits .and .u16 (a : Int) (IntKind.u16.wrap (-(a : Int))) = 256 := low_and ha h0 hi
  have h3 : w.cell? ⟨0, 15, none⟩ = some (.int .u8 8) := hT 8 (by decide)
  clear ha h0 hi hT
  go_enter Tryd.func38, Tryd.ntmps38
  go_wp2
  go_ret
  exact ⟨rfl, rfl⟩
theorem tz_9 (a : Nat) (w : World) (ha : Good a) (h0 : 0 < a) (hi : lo a = 9) (hT : TabT w) :
    Calls Tryd.prog 38 #[.int .u16 (a : Int)] w fun e w' => e = .returned (.int .i64 9) ∧ w = w' := by
  have h1 : ((a : Int) == 0) = false := by simp; omega
  have h2 : bits .and .u16 (a : Int) (IntKind.u16.wrap (-(a : Int))) = 512 := low_and ha h0 hi
  have h3 : w.cell? ⟨0, 31, none⟩ = some (.int .u8 9) := hT 9 (by decide)
  clear ha h0 hi hT
  go_enter Tryd.func38, Tryd.ntmps38
  go_wp2
  go_ret
  exact ⟨rfl, rfl⟩
theorem tz_10 (a : Nat) (w : World) (ha : Good a) (h0 : 0 < a) (hi : lo a = 10) (hT : TabT w) :
    Calls Tryd.prog 38 #[.int .u16 (a : Int)] w fun e w' => e = .returned (.int .i64 10) ∧ w = w' := by
  have h1 : ((a : Int) == 0) = false := by simp; omega
  have h2 : bits .and .u16 (a : Int) (IntKind.u16.wrap (-(a : Int))) = 1024 := low_and ha h0 hi
  have h3 : w.cell? ⟨0, 30, none⟩ = some (.int .u8 10) := hT 10 (by decide)
  clear ha h0 hi hT
  go_enter Tryd.func38, Tryd.ntmps38
  go_wp2
  go_ret
  exact ⟨rfl, rfl⟩
theorem tz_11 (a : Nat) (w : World) (ha : Good a) (h0 : 0 < a) (hi : lo a = 11) (hT : TabT w) :
    Calls Tryd.prog 38 #[.int .u16 (a : Int)] w fun e w' => e = .returned (.int .i64 11) ∧ w = w' := by
  have h1 : ((a : Int) == 0) = false := by simp; omega
  have h2 : bits .and .u16 (a : Int) (IntKind.u16.wrap (-(a : Int))) = 2048 := low_and ha h0 hi
  have h3 : w.cell? ⟨0, 28, none⟩ = some (.int .u8 11) := hT 11 (by decide)
  clear ha h0 hi hT
  go_enter Tryd.func38, Tryd.ntmps38
  go_wp2
  go_ret
  exact ⟨rfl, rfl⟩

theorem law44 : Keyed Tryd.prog 44 := int_keyed Tryd.underlying44
theorem zero9 (w : World) : (zeroValue 9).run Tryd.prog w = .ok (.string ⟨#[]⟩) w := by kernel_rfl

/-- The table of names behind its stores. -/
def DA : DataW Unit :=
  ((((((((((((DataW.map [] : DataW Unit)).put (.int .u16 1) (.lit (.string [78, 79, 80, 82, 79, 70]))).put (.int .u16 2) (.lit (.string [68, 85, 80, 79, 75]))).put (.int .u16 4) (.lit (.string [78, 79, 83, 80, 76, 73, 84]))).put (.int .u16 8) (.lit (.string [82, 79, 68, 65, 84, 65]))).put (.int .u16 16) (.lit (.string [78, 79, 80, 84, 82]))).put (.int .u16 32) (.lit (.string [87, 82, 65, 80, 80, 69, 82]))).put (.int .u16 64) (.lit (.string [78, 69, 69, 68, 67, 84, 88, 84]))).put (.int .u16 256) (.lit (.string [84, 76, 83, 66, 83, 83]))).put (.int .u16 512) (.lit (.string [78, 79, 70, 82, 65, 77, 69]))).put (.int .u16 1024) (.lit (.string [82, 69, 70, 76, 69, 67, 84, 77, 69, 84, 72, 79, 68]))).put (.int .u16 2048) (.lit (.string [84, 79, 80, 70, 82, 65, 77, 69]))

set_option maxHeartbeats 1000000 in
set_option maxRecDepth 100000 in
theorem attrname_any (w : World) : Calls Tryd.prog 39 #[] w fun e w' => ∃ b, e = .returned (.map (some b)) ∧ w'.ownsMap (H := Unit) Tryd.prog 44 (plainElem Tryd.prog 9) b 11 DA ∧ Below w.heap.size w w' := by
  have hmm := @run_makeMap Tryd.prog
  have o0 := World.ownsMap_made (H := Unit) w Tryd.prog 44 (plainElem Tryd.prog 9)
  have b0 : Below w.heap.size w (w.alloc (.map #[] 0)) := (Below.refl _ _).alloc (Nat.le_refl _) _
  obtain ⟨w1, r1, o1, g1⟩ := o0.update (t := 70) (e := 9) law44 Tryd.underlying70 (by decide) (key := .int .u16 1) (val := .string ⟨#[78, 79, 80, 82, 79, 70]⟩) (kl := .int .u16 1) (d := .lit (.string [78, 79, 80, 82, 79, 70])) (ps := []) (keyOf_int_mk Tryd.underlying44 (by decide)) (plainElem_string Tryd.underlying9 (by decide))
  have b1 := b0.grown g1 b0.size (fun j hj => by cases hj; exact Nat.le_refl _)
  obtain ⟨w2, r2, o2, g2⟩ := o1.update (t := 70) (e := 9) law44 Tryd.underlying70 (by decide) (key := .int .u16 2) (val := .string ⟨#[68, 85, 80, 79, 75]⟩) (kl := .int .u16 2) (d := .lit (.string [68, 85, 80, 79, 75])) (ps := []) (keyOf_int_mk Tryd.underlying44 (by decide)) (plainElem_string Tryd.underlying9 (by decide))
  have b2 := b1.grown g2 b1.size (fun j hj => by cases hj; exact Nat.le_refl _)
  obtain ⟨w3, r3, o3, g3⟩ := o2.update (t := 70) (e := 9) law44 Tryd.underlying70 (by decide) (key := .int .u16 4) (val := .string ⟨#[78, 79, 83, 80, 76, 73, 84]⟩) (kl := .int .u16 4) (d := .lit (.string [78, 79, 83, 80, 76, 73, 84])) (ps := []) (keyOf_int_mk Tryd.underlying44 (by decide)) (plainElem_string Tryd.underlying9 (by decide))
  have b3 := b2.grown g3 b2.size (fun j hj => by cases hj; exact Nat.le_refl _)
  obtain ⟨w4, r4, o4, g4⟩ := o3.update (t := 70) (e := 9) law44 Tryd.underlying70 (by decide) (key := .int .u16 8) (val := .string ⟨#[82, 79, 68, 65, 84, 65]⟩) (kl := .int .u16 8) (d := .lit (.string [82, 79, 68, 65, 84, 65])) (ps := []) (keyOf_int_mk Tryd.underlying44 (by decide)) (plainElem_string Tryd.underlying9 (by decide))
  have b4 := b3.grown g4 b3.size (fun j hj => by cases hj; exact Nat.le_refl _)
  obtain ⟨w5, r5, o5, g5⟩ := o4.update (t := 70) (e := 9) law44 Tryd.underlying70 (by decide) (key := .int .u16 16) (val := .string ⟨#[78, 79, 80, 84, 82]⟩) (kl := .int .u16 16) (d := .lit (.string [78, 79, 80, 84, 82])) (ps := []) (keyOf_int_mk Tryd.underlying44 (by decide)) (plainElem_string Tryd.underlying9 (by decide))
  have b5 := b4.grown g5 b4.size (fun j hj => by cases hj; exact Nat.le_refl _)
  obtain ⟨w6, r6, o6, g6⟩ := o5.update (t := 70) (e := 9) law44 Tryd.underlying70 (by decide) (key := .int .u16 32) (val := .string ⟨#[87, 82, 65, 80, 80, 69, 82]⟩) (kl := .int .u16 32) (d := .lit (.string [87, 82, 65, 80, 80, 69, 82])) (ps := []) (keyOf_int_mk Tryd.underlying44 (by decide)) (plainElem_string Tryd.underlying9 (by decide))
  have b6 := b5.grown g6 b5.size (fun j hj => by cases hj; exact Nat.le_refl _)
  obtain ⟨w7, r7, o7, g7⟩ := o6.update (t := 70) (e := 9) law44 Tryd.underlying70 (by decide) (key := .int .u16 64) (val := .string ⟨#[78, 69, 69, 68, 67, 84, 88, 84]⟩) (kl := .int .u16 64) (d := .lit (.string [78, 69, 69, 68, 67, 84, 88, 84])) (ps := []) (keyOf_int_mk Tryd.underlying44 (by decide)) (plainElem_string Tryd.underlying9 (by decide))
  have b7 := b6.grown g7 b6.size (fun j hj => by cases hj; exact Nat.le_refl _)
  obtain ⟨w8, r8, o8, g8⟩ := o7.update (t := 70) (e := 9) law44 Tryd.underlying70 (by decide) (key := .int .u16 256) (val := .string ⟨#[84, 76, 83, 66, 83, 83]⟩) (kl := .int .u16 256) (d := .lit (.string [84, 76, 83, 66, 83, 83])) (ps := []) (keyOf_int_mk Tryd.underlying44 (by decide)) (plainElem_string Tryd.underlying9 (by decide))
  have b8 := b7.grown g8 b7.size (fun j hj => by cases hj; exact Nat.le_refl _)
  obtain ⟨w9, r9, o9, g9⟩ := o8.update (t := 70) (e := 9) law44 Tryd.underlying70 (by decide) (key := .int .u16 512) (val := .string ⟨#[78, 79, 70, 82, 65, 77, 69]⟩) (kl := .int .u16 512) (d := .lit (.string [78, 79, 70, 82, 65, 77, 69])) (ps := []) (keyOf_int_mk Tryd.underlying44 (by decide)) (plainElem_string Tryd.underlying9 (by decide))
  have b9 := b8.grown g9 b8.size (fun j hj => by cases hj; exact Nat.le_refl _)
  obtain ⟨w10, r10, o10, g10⟩ := o9.update (t := 70) (e := 9) law44 Tryd.underlying70 (by decide) (key := .int .u16 1024) (val := .string ⟨#[82, 69, 70, 76, 69, 67, 84, 77, 69, 84, 72, 79, 68]⟩) (kl := .int .u16 1024) (d := .lit (.string [82, 69, 70, 76, 69, 67, 84, 77, 69, 84, 72, 79, 68])) (ps := []) (keyOf_int_mk Tryd.underlying44 (by decide)) (plainElem_string Tryd.underlying9 (by decide))
  have b10 := b9.grown g10 b9.size (fun j hj => by cases hj; exact Nat.le_refl _)
  obtain ⟨w11, r11, o11, g11⟩ := o10.update (t := 70) (e := 9) law44 Tryd.underlying70 (by decide) (key := .int .u16 2048) (val := .string ⟨#[84, 79, 80, 70, 82, 65, 77, 69]⟩) (kl := .int .u16 2048) (d := .lit (.string [84, 79, 80, 70, 82, 65, 77, 69])) (ps := []) (keyOf_int_mk Tryd.underlying44 (by decide)) (plainElem_string Tryd.underlying9 (by decide))
  have b11 := b10.grown g11 b10.size (fun j hj => by cases hj; exact Nat.le_refl _)
  have HO := Lib.hid o11
  have HB := Lib.hid b11
  clear o0 o1 o2 o3 o4 o5 o6 o7 o8 o9 o10 o11 g1 g2 g3 g4 g5 g6 g7 g8 g9 g10 g11 b0 b1 b2 b3 b4 b5 b6 b7 b8 b9 b10 b11
  go_enter Tryd.func39, Tryd.ntmps39
  go_wp2
  go_ret
  exact ⟨_, rfl, HO.out, HB.out⟩

set_option maxRecDepth 100000 in
/-- A look into the table. -/
theorem look_any {w : World} {b : Nat} (h : w.ownsMap (H := Unit) Tryd.prog 44 (plainElem Tryd.prog 9) b 11 DA) (k : Int) (s : List UInt8) (hk : (Lit.int .u16 k).wf = true) (hs : DA.atKey (.int .u16 k) (.lit (.string [])) = .lit (.string s)) :
    (Instr.lookup 70 (.map (some b)) (.int .u16 k) false).run Tryd.prog w = .ok (.string ⟨s.toArray⟩) w := by
  have hz : plainElem (H := Unit) Tryd.prog 9 (.string ⟨#[]⟩) = some (.lit (.string []), []) := plainElem_string Tryd.underlying9 (by decide)
  obtain ⟨v, ps, hrun, hv⟩ := h.lookup law44 Tryd.underlying70 (zero9 w) hz (keyOf_int_mk Tryd.underlying44 hk)
  rw [hs] at hv
  have e : v = .string ⟨s.toArray⟩ := by
    unfold plainElem at hv
    rw [Tryd.underlying9] at hv
    split at hv
    · cases hv
    · split at hv <;> cases hv
    · split at hv
      · rename_i x _
        simp only [Option.some.injEq, Prod.mk.injEq, DataW.lit.injEq, Lit.string.injEq] at hv
        rw [← hv.1]
      · cases hv
    · cases hv
  rw [← e]
  exact hrun

theorem at_0 : DA.atKey (.int .u16 1) (.lit (.string [])) = .lit (.string (nm 0)) := by kernel_rfl
theorem at_1 : DA.atKey (.int .u16 2) (.lit (.string [])) = .lit (.string (nm 1)) := by kernel_rfl
theorem at_2 : DA.atKey (.int .u16 4) (.lit (.string [])) = .lit (.string (nm 2)) := by kernel_rfl
theorem at_3 : DA.atKey (.int .u16 8) (.lit (.string [])) = .lit (.string (nm 3)) := by kernel_rfl
theorem at_4 : DA.atKey (.int .u16 16) (.lit (.string [])) = .lit (.string (nm 4)) := by kernel_rfl
theorem at_5 : DA.atKey (.int .u16 32) (.lit (.string [])) = .lit (.string (nm 5)) := by kernel_rfl
theorem at_6 : DA.atKey (.int .u16 64) (.lit (.string [])) = .lit (.string (nm 6)) := by kernel_rfl
theorem at_8 : DA.atKey (.int .u16 256) (.lit (.string [])) = .lit (.string (nm 8)) := by kernel_rfl
theorem at_9 : DA.atKey (.int .u16 512) (.lit (.string [])) = .lit (.string (nm 9)) := by kernel_rfl
theorem at_10 : DA.atKey (.int .u16 1024) (.lit (.string [])) = .lit (.string (nm 10)) := by kernel_rfl
theorem at_11 : DA.atKey (.int .u16 2048) (.lit (.string [])) = .lit (.string (nm 11)) := by kernel_rfl

end Go.Proofs.YtjmmfhgdjndabaaRRDoor
