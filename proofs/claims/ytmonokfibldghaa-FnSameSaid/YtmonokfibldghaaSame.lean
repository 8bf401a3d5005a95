/- Walks of FnSame's closure: the three numbers of a register. Conditions: the lookups' values as stated. -/
import Derived.Test.YtmonokfibldghaaSpec
import Derived.WalkKit
import Derived.BigRegion
import Derived.Below
import Derived.Handy
import Derived.Lib.Hide
namespace Go.Proofs.Ytmonokfibldghaa
open Go.RowKit Go.Maps

set_option maxHeartbeats 1000000 in
set_option maxRecDepth 100000 in
theorem regs_0 (t s x y X Y : Nat) (w : World) (h1 : (t : Int) % 3 = 0) (h2 : (t : Int) / 4 % 4 = (s : Int)) (h3 : (t : Int) / 16 % 5 = (x : Int)) (h4 : (t : Int) / 16 % 3 = (y : Int))
    (hx : x < 5) (hy : y < 3)
    (hX : ([.int .i64 1, .int .i64 2, .int .i64 3, .int .i64 7, .int .i64 15] : List Value)[x]'(by simpa using hx) = .int .i64 (X : Int))
    (hY : ([.int .i64 31, .int .i64 63, .int .i64 127] : List Value)[y]'(by simpa using hy) = .int .i64 (Y : Int)) :
    Calls Try.prog 11 #[.int .u8 (t : Int)] w fun e w' => e = .returned (.agg #[.int .i64 1, .int .i64 (s : Int), .int .i64 (X : Int)]) ∧ Grown w w' := by
  go_enter Try.func11, Try.ntmps11
  go_wp2_with fail
  go_region
  all_goals go_wp2
  all_goals (refine bodyPost_ret (v := .agg #[.int .i64 1, .int .i64 (s : Int), .int .i64 (X : Int)]) (by simp [results, Try.results11, go_sem]) rfl ⟨rfl, ?_⟩)
  all_goals go_grown

set_option maxHeartbeats 1000000 in
set_option maxRecDepth 100000 in
theorem regs_1 (t s x y X Y : Nat) (w : World) (h1 : (t : Int) % 3 = 1) (h2 : (t : Int) / 4 % 4 = (s : Int)) (h3 : (t : Int) / 16 % 5 = (x : Int)) (h4 : (t : Int) / 16 % 3 = (y : Int))
    (hx : x < 5) (hy : y < 3)
    (hX : ([.int .i64 1, .int .i64 2, .int .i64 3, .int .i64 7, .int .i64 15] : List Value)[x]'(by simpa using hx) = .int .i64 (X : Int))
    (hY : ([.int .i64 31, .int .i64 63, .int .i64 127] : List Value)[y]'(by simpa using hy) = .int .i64 (Y : Int)) :
    Calls Try.prog 11 #[.int .u8 (t : Int)] w fun e w' => e = .returned (.agg #[.int .i64 2, .int .i64 (s : Int), .int .i64 (Y : Int)]) ∧ Grown w w' := by
  go_enter Try.func11, Try.ntmps11
  go_wp2_with fail
  go_region
  all_goals go_wp2
  all_goals (refine bodyPost_ret (v := .agg #[.int .i64 2, .int .i64 (s : Int), .int .i64 (Y : Int)]) (by simp [results, Try.results11, go_sem]) rfl ⟨rfl, ?_⟩)
  all_goals go_grown

set_option maxHeartbeats 1000000 in
set_option maxRecDepth 100000 in
theorem regs_2 (t s x y X Y : Nat) (w : World) (h1 : (t : Int) % 3 = 2) (h2 : (t : Int) / 4 % 4 = (s : Int)) (h3 : (t : Int) / 16 % 5 = (x : Int)) (h4 : (t : Int) / 16 % 3 = (y : Int))
    (hx : x < 5) (hy : y < 3)
    (hX : ([.int .i64 1, .int .i64 2, .int .i64 3, .int .i64 7, .int .i64 15] : List Value)[x]'(by simpa using hx) = .int .i64 (X : Int))
    (hY : ([.int .i64 31, .int .i64 63, .int .i64 127] : List Value)[y]'(by simpa using hy) = .int .i64 (Y : Int)) :
    Calls Try.prog 11 #[.int .u8 (t : Int)] w fun e w' => e = .returned (.agg #[.int .i64 3, .int .i64 (s : Int), .int .i64 15]) ∧ Grown w w' := by
  go_enter Try.func11, Try.ntmps11
  go_wp2_with fail
  go_region
  all_goals go_wp2
  all_goals (refine bodyPost_ret (v := .agg #[.int .i64 3, .int .i64 (s : Int), .int .i64 15]) (by simp [results, Try.results11, go_sem]) rfl ⟨rfl, ?_⟩)
  all_goals go_grown


/-- The kind, the index and the parts of a number. -/
def kd (t : Nat) : Int := 1 + (t % 3 : Nat)
def ix (t : Nat) : Int := (t / 4 % 4 : Nat)
def lowX (t : Nat) : Nat := ([1, 2, 3, 7, 15] : List Nat).getD (t / 16 % 5) 0
def lowY (t : Nat) : Nat := ([31, 63, 127] : List Nat).getD (t / 16 % 3) 0
def pt (t : Nat) : Int := if t % 3 = 0 then (lowX t : Int) else if t % 3 = 1 then (lowY t : Int) else 15

theorem lowX_at (x : Nat) (hx : x < 5) : ([.int .i64 1, .int .i64 2, .int .i64 3, .int .i64 7, .int .i64 15] : List Value)[x]'(by simpa using hx) = .int .i64 ((([1, 2, 3, 7, 15] : List Nat).getD x 0 : Nat) : Int) := by
  match x, hx with
  | 0, _ => rfl
  | 1, _ => rfl
  | 2, _ => rfl
  | 3, _ => rfl
  | 4, _ => rfl
theorem lowY_at (y : Nat) (hy : y < 3) : ([.int .i64 31, .int .i64 63, .int .i64 127] : List Value)[y]'(by simpa using hy) = .int .i64 ((([31, 63, 127] : List Nat).getD y 0 : Nat) : Int) := by
  match y, hy with
  | 0, _ => rfl
  | 1, _ => rfl
  | 2, _ => rfl
theorem lowX_lt (t : Nat) : lowX t < 128 := by
  unfold lowX
  have h : t / 16 % 5 < 5 := Nat.mod_lt _ (by decide)
  match t / 16 % 5, h with
  | 0, _ => decide
  | 1, _ => decide
  | 2, _ => decide
  | 3, _ => decide
  | 4, _ => decide
theorem lowY_lt (t : Nat) : lowY t < 128 := by
  unfold lowY
  have h : t / 16 % 3 < 3 := Nat.mod_lt _ (by decide)
  match t / 16 % 3, h with
  | 0, _ => decide
  | 1, _ => decide
  | 2, _ => decide

theorem regs_any (t : Nat) (w : World) :
    Calls Try.prog 11 #[.int .u8 (t : Int)] w fun e w' => e = .returned (.agg #[.int .i64 (kd t), .int .i64 (ix t), .int .i64 (pt t)]) ∧ Grown w w' := by
  have hx : t / 16 % 5 < 5 := Nat.mod_lt _ (by decide)
  have hy : t / 16 % 3 < 3 := Nat.mod_lt _ (by decide)
  have h2 : (t : Int) / 4 % 4 = ((t / 4 % 4 : Nat) : Int) := by simp
  have h3 : (t : Int) / 16 % 5 = ((t / 16 % 5 : Nat) : Int) := by simp
  have h4 : (t : Int) / 16 % 3 = ((t / 16 % 3 : Nat) : Int) := by simp
  have hc : t % 3 = 0 ∨ t % 3 = 1 ∨ t % 3 = 2 := by omega
  rcases hc with h | h | h
  · have e1 : kd t = 1 := by unfold kd; rw [h]; rfl
    have e2 : pt t = (lowX t : Int) := by unfold pt; rw [if_pos h]
    rw [e1, e2]
    exact regs_0 t _ _ _ _ _ w (by omega) h2 h3 h4 hx hy (lowX_at _ hx) (lowY_at _ hy)
  · have e1 : kd t = 2 := by unfold kd; rw [h]; rfl
    have e2 : pt t = (lowY t : Int) := by unfold pt; rw [if_neg (by omega), if_pos h]
    rw [e1, e2]
    exact regs_1 t _ _ _ _ _ w (by omega) h2 h3 h4 hx hy (lowX_at _ hx) (lowY_at _ hy)
  · have e1 : kd t = 3 := by unfold kd; rw [h]; rfl
    have e2 : pt t = 15 := by unfold pt; rw [if_neg (by omega), if_neg (by omega)]
    rw [e1, e2]
    exact regs_2 t _ _ _ _ _ w (by omega) h2 h3 h4 hx hy (lowX_at _ hx) (lowY_at _ hy)

end Go.Proofs.Ytmonokfibldghaa
