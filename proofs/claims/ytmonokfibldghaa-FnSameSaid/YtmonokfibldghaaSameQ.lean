/- Two arrays of three ints are equal exactly if their numbers are. Conditions: none. -/
import Derived.Test.YtmonokfibldghaaVirt
import Derived.DeepKeys
import Derived.ChangeKeysEq
namespace Go.Proofs.Ytmonokfibldghaa
open Go.RowKit Go.Maps

theorem eq3 (d : Nat) (a b : Int) (w : World) : (Op.equalIn (d + 1) 3 (.int .i64 a) (.int .i64 b)).run Try.prog w = .ok (decide (a = b)) w := by
  simp [Op.equalIn, run_underlying Try.underlying3]
  rfl
theorem eq3' (a b : Int) (w : World) : (Op.equalIn 9999 3 (.int .i64 a) (.int .i64 b)).run Try.prog w = .ok (decide (a = b)) w := eq3 9998 a b w

theorem eq22 (k s x k' s' x' : Int) (w : World) :
    (Op.equalIn 10000 22 (.agg #[.int .i64 k, .int .i64 s, .int .i64 x]) (.agg #[.int .i64 k', .int .i64 s', .int .i64 x'])).run Try.prog w = .ok (same3 k s x k' s' x') w := by
  have hp : Try.prog.plainKey 3 = true := by kernel_rfl
  have c3 : Try.prog.cellsOf 3 = 1 := by kernel_rfl
  have hi : (Try.prog.info? 3).isSome = true := by kernel_rfl
  obtain ⟨i, hi⟩ := Option.isSome_iff_exists.1 hi
  have p0 := fun a b c : Int => run_part_plain w hp (xs := #[.int .i64 a, .int .i64 b, .int .i64 c]) (off := 0) (v := .int .i64 a) rfl
  have p1 := fun a b c : Int => run_part_plain w hp (xs := #[.int .i64 a, .int .i64 b, .int .i64 c]) (off := 1) (v := .int .i64 b) rfl
  have p2 := fun a b c : Int => run_part_plain w hp (xs := #[.int .i64 a, .int .i64 b, .int .i64 c]) (off := 2) (v := .int .i64 c) rfl
  rw [run_equalIn_array w 9999 _ _ Try.underlying22 hi, c3]
  have hr : List.range 3 = [0, 1, 2] := rfl
  rw [hr]
  unfold same3
  by_cases h1 : k = k'
  · by_cases h2 : s = s'
    · by_cases h3 : x = x' <;> simp [Op.eqItems, p0, p1, p2, eq3', h1, h2, h3]
    · simp [Op.eqItems, p0, p1, p2, eq3', h1, h2]
  · simp [Op.eqItems, p0, p1, p2, eq3', h1]

end Go.Proofs.Ytmonokfibldghaa
