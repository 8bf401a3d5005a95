/- FnSame's callees: a new virtual register, its number and its parts, and whether two are equal. Conditions: kinds and indices below four. -/
import Derived.Test.YtmonokfibldghaaSpec
import Derived.WalkKit
import Derived.BigRegion
import Derived.Below
import Derived.Handy
import Derived.Lib.Hide
namespace Go.Proofs.Ytmonokfibldghaa
open Go.RowKit Go.Maps

theorem grow2 {a b c : World} (h1 : Grown a b) (h2 : Grown b c) : Grown a c :=
  ⟨World.keptBut_trans h1.1 h2.1, fun x => (h2.2.1 x).trans (h1.2.1 x), Nat.le_trans h1.2.2 h2.2.2⟩
theorem growCell {a b : World} (h : Grown a b) {k i : Nat} (hk : k < a.heap.size) : b.cell? ⟨k, i, none⟩ = a.cell? ⟨k, i, none⟩ := h.1.cell hk (fun f => f)

theorem virt_any (a b c : Int) (w : World) :
    Calls Try.prog 28 #[.int .u16 a, .int .u8 b, .int .u16 c] w fun e w' => e = .returned (.iface 78 (.agg #[.int .u16 a, .int .u8 b, .int .u16 c])) ∧ w = w' := by
  go_enter Try.func28, Try.ntmps28
  go_wp2
  go_ret
  exact ⟨rfl, rfl⟩

/-- The four numbers that a kind or an index may be. -/
def Four (a : Int) : Prop := a = 0 ∨ a = 1 ∨ a = 2 ∨ a = 3

theorem newid_any (a b : Int) (w : World) (ha : Four a) (hb : Four b) :
    Calls Try.prog 86 #[.int .u8 1, .int .u8 b, .int .u16 a] w fun e w' => e = .returned (.int .u32 (1 + 256 * b + 65536 * a)) ∧ w = w' := by
  rcases ha with rfl | rfl | rfl | rfl <;> rcases hb with rfl | rfl | rfl | rfl <;>
  · go_enter Try.func86, Try.ntmps86
    go_wp2
    go_ret
    exact ⟨rfl, rfl⟩

theorem mask_any (c : Int) (w : World) :
    Calls Try.prog 76 #[.int .u16 c] w fun e w' => e = .returned (.int .u16 c) ∧ w = w' := by
  go_enter Try.func76, Try.ntmps76
  go_wp2
  go_ret
  exact ⟨rfl, rfl⟩

theorem id_any (a b c : Int) (w : World) (ha : Four a) (hb : Four b) :
    Calls Try.prog 80 #[.agg #[.int .u16 a, .int .u8 b, .int .u16 c]] w fun e w' => e = .returned (.int .u32 (1 + 256 * b + 65536 * a)) ∧ Grown w w' := by
  go_enter Try.func80, Try.ntmps80
  go_wp2_with (first
    | (go_at_call 86; refine (newid_any a b _ ha hb).mono ?_; rintro e w' ⟨rfl, rfl⟩))
  go_ret
  refine ⟨rfl, ?_⟩
  go_grown

theorem id_num (a b c i : Int) (w : World) (ha : Four a) (hb : Four b) (hi : Hid (i = 1 + 256 * b + 65536 * a)) :
    Calls Try.prog 80 #[.agg #[.int .u16 a, .int .u8 b, .int .u16 c]] w fun e w' => e = .returned (.int .u32 i) ∧ Grown w w' := by
  rw [hi.out]
  exact id_any a b c w ha hb

set_option maxRecDepth 100000 in
theorem equalV_other (a b c a' b' c' i i' : Int) (w : World) (ha : Four a) (hb : Four b) (ha' : Four a') (hb' : Four b')
    (hi : Hid (i = 1 + 256 * b + 65536 * a)) (hi' : Hid (i' = 1 + 256 * b' + 65536 * a')) (hn : (i == i') = false) :
    Calls Try.prog 27 #[.iface 78 (.agg #[.int .u16 a, .int .u8 b, .int .u16 c]), .iface 78 (.agg #[.int .u16 a', .int .u8 b', .int .u16 c'])] w fun e w' => e = .returned (.bool false) ∧ Grown w w' := by
  go_enter Try.func27, Try.ntmps27
  go_wp2_with fail
  refine (id_num a b c i _ ha hb hi).mono ?_
  rintro e w1 ⟨rfl, hg1⟩
  go_wp2_with fail
  refine (id_num a' b' c' i' _ ha' hb' hi').mono ?_
  rintro e w2 ⟨rfl, hg2⟩
  go_wp2_with fail
  go_ret
  exact ⟨rfl, grow2 hg1 hg2⟩

set_option maxRecDepth 100000 in
theorem equalV_parts (a b c c' i : Int) (r : Bool) (w : World) (ha : Four a) (hb : Four b)
    (hi : Hid (i = 1 + 256 * b + 65536 * a)) (hr : (c == c') = r) :
    Calls Try.prog 27 #[.iface 78 (.agg #[.int .u16 a, .int .u8 b, .int .u16 c]), .iface 78 (.agg #[.int .u16 a, .int .u8 b, .int .u16 c'])] w fun e w' => e = .returned (.bool r) ∧ Grown w w' := by
  go_enter Try.func27, Try.ntmps27
  go_wp2_with fail
  refine (id_num a b c i _ ha hb hi).mono ?_
  rintro e w1 ⟨rfl, hg1⟩
  go_wp2_with fail
  refine (id_num a b c' i _ ha hb hi).mono ?_
  rintro e w2 ⟨rfl, hg2⟩
  go_wp2_with fail
  refine (mask_any c _).mono ?_
  rintro e w3 ⟨rfl, rfl⟩
  go_wp2_with fail
  refine (mask_any c' _).mono ?_
  rintro e w3 ⟨rfl, rfl⟩
  go_wp2_with fail
  go_ret
  exact ⟨rfl, grow2 hg1 hg2⟩

/-- Whether three numbers are three others. -/
def same3 (k s x k' s' x' : Int) : Bool := decide (k = k' ∧ s = s' ∧ x = x')

theorem equalV_any (a b c a' b' c' : Int) (w : World) (ha : Four a) (hb : Four b) (ha' : Four a') (hb' : Four b') :
    Calls Try.prog 27 #[.iface 78 (.agg #[.int .u16 a, .int .u8 b, .int .u16 c]), .iface 78 (.agg #[.int .u16 a', .int .u8 b', .int .u16 c'])] w fun e w' => e = .returned (.bool (same3 b a c b' a' c')) ∧ Grown w w' := by
  by_cases h : b = b' ∧ a = a'
  · obtain ⟨rfl, rfl⟩ := h
    exact equalV_parts a b c c' _ _ w ha hb (Lib.hid rfl) (by simp [same3]; rfl)
  · have h2 : same3 b a c b' a' c' = false := by
      simp only [same3, decide_eq_false_iff_not]
      exact fun h3 => h ⟨h3.1, h3.2.1⟩
    rw [h2]
    exact equalV_other a b c a' b' c' _ _ w ha hb ha' hb' (Lib.hid rfl) (Lib.hid rfl) (by
      simp only [beq_eq_false_iff_ne, ne_eq]
      rcases ha with rfl | rfl | rfl | rfl <;> rcases hb with rfl | rfl | rfl | rfl <;> rcases ha' with rfl | rfl | rfl | rfl <;> rcases hb' with rfl | rfl | rfl | rfl <;> simp_all)

end Go.Proofs.Ytmonokfibldghaa
