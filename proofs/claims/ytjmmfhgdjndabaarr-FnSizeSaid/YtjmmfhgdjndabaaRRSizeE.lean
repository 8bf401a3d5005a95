/- FnSize: two data at one place are refused. Conditions: none. -/
import Derived.Test.YtjmmfhgdjndabaaRRSizeD
namespace Go.Proofs.YtjmmfhgdjndabaaRR
open Go.RowKit

theorem row2 (w : World) (p q : Nat) : RowR cellsL 3 (w.alloc (.cells #[.int .i64 (p : Int), .int .i64 0, .int .u64 0, .int .i64 (q : Int), .int .i64 0, .int .u64 0] 27)) (some ⟨w.heap.size, 0, none⟩) [(p, 0, 0), (q, 0, 0)] := by
  intro _
  refine ⟨w.heap.size, rfl, by simp, fun k x hk j u hu => ?_⟩
  match k, hk with
  | 0, hk =>
    simp at hk
    subst hk
    match j, hu with
    | 0, hu => simp [cellsL] at hu; subst hu; simp
    | 1, hu => simp [cellsL] at hu; subst hu; simp
    | 2, hu => simp [cellsL] at hu; subst hu; simp
  | 1, hk =>
    simp at hk
    subst hk
    match j, hu with
    | 0, hu => simp [cellsL] at hu; subst hu; simp
    | 1, hu => simp [cellsL] at hu; subst hu; simp
    | 2, hu => simp [cellsL] at hu; subst hu; simp

theorem twice_any (w : World) : Calls Try.prog 5 #[] w fun e w' => e = .returned (.bool true) ∧ Below w.heap.size w w' := by
  go_enter Try.func5, Try.ntmps5
  go_wp2_with fail
  refine (size_any _ _ [(3, 0, 0), (3, 0, 0)] _ (row2 w 3 3) (by decide) (by intro y hy; simp at hy; subst hy; decide) (by intro y hy; simp at hy; subst hy; decide)).mono ?_
  rintro e w1 (⟨hr, -⟩ | ⟨-, rfl, hb1⟩)
  · exact absurd hr (by decide)
  have hb2 : Below w.heap.size w w1 := ((Below.refl _ _).alloc (Nat.le_refl _) _).trans (hb1.mono (by simp))
  clear hb1
  go_wp2_with fail
  refine (size_any _ _ [(3, 0, 0), (4, 0, 0)] _ (row2 w1 3 4) (by decide) (by intro y hy; simp at hy; rcases hy with rfl | rfl <;> decide) (by intro y hy; simp at hy; rcases hy with rfl | rfl <;> decide)).mono ?_
  rintro e w2 (⟨-, rfl, hb3⟩ | ⟨hr, -⟩)
  · have hb4 : Below w.heap.size w w2 := (hb2.alloc hb2.size _).trans (hb3.mono (by have := hb2.size; simp; omega))
    clear hb3
    have hm : ((mostK (PK [(3, 0, 0), (4, 0, 0)]) 2 : Nat) : Int) = 5 := by decide
    go_wp2
    go_ret
    exact ⟨rfl, hb4⟩
  · exact absurd hr (by decide)

end Go.Proofs.YtjmmfhgdjndabaaRR
