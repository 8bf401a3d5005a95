/- Walk of the thin package's Equal: whether two virtual registers have the same kind, index and parts. Conditions: kinds and indices below four, parts below 128. -/
import Derived.Test.YtmonokfibldghaaVirt
import Derived.Deep.RegionHeld3
import Derived.LoopTactic
import Derived.IntWalk
namespace Go.Proofs.Ytmonokfibldghaa
open Go.RowKit Go.Maps

/-- The two registers lie in their boxes, and both in the row that is ranged over. -/
structure C12 (B : Nat) (k s x k' s' x' : Int) (w : World) : Prop where
  a0 : w.cell? ⟨B, 0, none⟩ = some (.int .i64 k)
  a1 : w.cell? ⟨B, 1, none⟩ = some (.int .i64 s)
  a2 : w.cell? ⟨B, 2, none⟩ = some (.int .i64 x)
  a3 : w.cell? ⟨B + 1, 0, none⟩ = some (.int .i64 k')
  a4 : w.cell? ⟨B + 1, 1, none⟩ = some (.int .i64 s')
  a5 : w.cell? ⟨B + 1, 2, none⟩ = some (.int .i64 x')
  b0 : w.cell? ⟨B + 1 + 1, 0, none⟩ = some (.int .i64 k)
  b1 : w.cell? ⟨B + 1 + 1, 1, none⟩ = some (.int .i64 s)
  b2 : w.cell? ⟨B + 1 + 1, 2, none⟩ = some (.int .i64 x)
  b3 : w.cell? ⟨B + 1 + 1, 3, none⟩ = some (.int .i64 k')
  b4 : w.cell? ⟨B + 1 + 1, 4, none⟩ = some (.int .i64 s')
  b5 : w.cell? ⟨B + 1 + 1, 5, none⟩ = some (.int .i64 x')
  le : B + 3 ≤ w.heap.size

theorem C12.grown {B : Nat} {k s x k' s' x' : Int} {w w' : World} (h : C12 B k s x k' s' x' w) (g : Grown w w') : C12 B k s x k' s' x' w' := by
  have hl := h.le
  have h0 : B < w.heap.size := by omega
  have h1 : B + 1 < w.heap.size := by omega
  have h2 : B + 1 + 1 < w.heap.size := by omega
  exact ⟨(growCell g h0).trans h.a0, (growCell g h0).trans h.a1, (growCell g h0).trans h.a2, (growCell g h1).trans h.a3, (growCell g h1).trans h.a4, (growCell g h1).trans h.a5,
    (growCell g h2).trans h.b0, (growCell g h2).trans h.b1, (growCell g h2).trans h.b2, (growCell g h2).trans h.b3, (growCell g h2).trans h.b4, (growCell g h2).trans h.b5, Nat.le_trans hl g.2.2⟩

theorem c12_at (k s x k' s' x' : Int) (w : World) : C12 w.heap.size k s x k' s' x' (((w.alloc (.cells #[.int .i64 k, .int .i64 s, .int .i64 x] 22)).alloc (.cells #[.int .i64 k', .int .i64 s', .int .i64 x'] 22)).alloc (.cells #[.int .i64 k, .int .i64 s, .int .i64 x, .int .i64 k', .int .i64 s', .int .i64 x'] 22)) := by
  constructor
  all_goals first | (go_simp; done) | skip
  all_goals simp

set_option maxRecDepth 100000 in
theorem equal_any (k s x k' s' x' : Int) (w : World) (hk : Four k) (hs : Four s) (hk' : Four k') (hs' : Four s') (x0 : 0 ≤ x) (x1 : x < 128) (x0' : 0 ≤ x') (x1' : x' < 128) :
    Calls Try.prog 12 #[.agg #[.int .i64 k, .int .i64 s, .int .i64 x], .agg #[.int .i64 k', .int .i64 s', .int .i64 x']] w fun e w' => e = .returned (.bool (same3 k s x k' s' x')) ∧ Grown w w' := by
  have d1 : decide (k < 0) = false := by unfold Four at hk; simp; omega
  have d2 : decide (255 < k) = false := by unfold Four at hk; simp; omega
  have d3 : decide (s < 0) = false := by unfold Four at hs; simp; omega
  have d4 : decide (65535 < s) = false := by unfold Four at hs; simp; omega
  have d5 : decide (x < 0) = false := by simp; omega
  have d6 : decide (65535 < x) = false := by simp; omega
  have e1 : decide (k' < 0) = false := by unfold Four at hk'; simp; omega
  have e2 : decide (255 < k') = false := by unfold Four at hk'; simp; omega
  have e3 : decide (s' < 0) = false := by unfold Four at hs'; simp; omega
  have e4 : decide (65535 < s') = false := by unfold Four at hs'; simp; omega
  have e5 : decide (x' < 0) = false := by simp; omega
  have e6 : decide (65535 < x') = false := by simp; omega
  have h0 := Lib.hid (c12_at k s x k' s' x' w)
  go_enter Try.func12, Try.ntmps12
  go_wp2_with fail
  go_loopw [11] (fun i wr => ∃ j : Nat, j ≤ 2 ∧ i = .int .i64 j ∧ C12 w.heap.size k s x k' s' x' wr ∧ Grown w wr) (fun i _ => 2 - (intOf i).toNat)
  case atStart =>
    refine ⟨0, by omega, rfl, h0.out, ?_⟩
    go_grown
  case round =>
    obtain ⟨j, hj, rfl, hC, hG⟩ := hrel
    obtain ⟨a0, a1, a2, a3, a4, a5, b0, b1, b2, b3, b4, b5, le⟩ := id hC
    have hj3 : j = 0 ∨ j = 1 ∨ j = 2 := by omega
    rcases hj3 with rfl | rfl | rfl
    · go_wp2_with fail
      exact ⟨⟨1, by omega, rfl, hC.grown (by go_grown), by go_grown⟩, by simp [intOf]⟩
    · go_wp2_with fail
      exact ⟨⟨2, by omega, rfl, hC.grown (by go_grown), by go_grown⟩, by simp [intOf]⟩
    · have m1 : IntKind.u8.wrap k = k := by unfold Four at hk; simp [IntKind.wrap, IntKind.bits, IntKind.signed]; omega
      have m2 : IntKind.u16.wrap s = s := by unfold Four at hs; simp [IntKind.wrap, IntKind.bits, IntKind.signed]; omega
      have m3 : IntKind.u16.wrap x = x := by simp [IntKind.wrap, IntKind.bits, IntKind.signed]; omega
      have m4 : IntKind.u8.wrap k' = k' := by unfold Four at hk'; simp [IntKind.wrap, IntKind.bits, IntKind.signed]; omega
      have m5 : IntKind.u16.wrap s' = s' := by unfold Four at hs'; simp [IntKind.wrap, IntKind.bits, IntKind.signed]; omega
      have m6 : IntKind.u16.wrap x' = x' := by simp [IntKind.wrap, IntKind.bits, IntKind.signed]; omega
      have H27 := Lib.hid (fun W => equalV_any s k x s' k' x' W hs hk hs' hk')
      have hl0 : w.heap.size < wr.drew.heap.size := by simp; omega
      have hl1 : w.heap.size + 1 < wr.drew.heap.size := by simp; omega
      go_wp2_with fail
      go_region_held3 (fun w' => w'.cell? ⟨w.heap.size, 0, none⟩ = some (.int .i64 k) ∧ w'.cell? ⟨w.heap.size, 1, none⟩ = some (.int .i64 s) ∧ w'.cell? ⟨w.heap.size, 2, none⟩ = some (.int .i64 x) ∧
          w'.cell? ⟨w.heap.size + 1, 0, none⟩ = some (.int .i64 k') ∧ w'.cell? ⟨w.heap.size + 1, 1, none⟩ = some (.int .i64 s') ∧ w'.cell? ⟨w.heap.size + 1, 2, none⟩ = some (.int .i64 x'))
        (go_keep)
        ((first
          | (go_at_call 28; refine (virt_any _ _ _ _).mono ?_; rintro e w1 ⟨rfl, rfl⟩)
          | (go_at_call 27; refine (H27.out _).mono ?_; rintro e w2 ⟨rfl, hg2⟩; have c0 := (growCell (i := 0) hg2 hl0).trans a0; have c1 := (growCell (i := 1) hg2 hl0).trans a1; have c2 := (growCell (i := 2) hg2 hl0).trans a2; have c3 := (growCell (i := 0) hg2 hl1).trans a3; have c4 := (growCell (i := 1) hg2 hl1).trans a4; have c5 := (growCell (i := 2) hg2 hl1).trans a5)))
      go_wp2
      go_ret
      exact ⟨rfl, grow2 hG hg2⟩

end Go.Proofs.Ytmonokfibldghaa
