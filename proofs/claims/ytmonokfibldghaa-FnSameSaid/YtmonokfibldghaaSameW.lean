/- Walk of FnSame. Conditions: none. -/
import Derived.Test.YtmonokfibldghaaSame
import Derived.Test.YtmonokfibldghaaSameE
import Derived.Test.YtmonokfibldghaaSameQ
namespace Go.Proofs.Ytmonokfibldghaa
open Go.RowKit Go.Maps

theorem four_kd (t : Nat) : Four (kd t) := by unfold Four kd; omega
theorem four_ix (t : Nat) : Four (ix t) := by unfold Four ix; omega
theorem pt_range (t : Nat) : 0 ≤ pt t ∧ pt t < 128 := by
  have h1 := lowX_lt t
  have h2 := lowY_lt t
  unfold pt
  split
  · omega
  · split <;> omega

set_option maxRecDepth 100000 in
theorem fnSame_all (t0 t1 : Nat) (w : World) :
    Calls Try.prog 3 #[.int .u8 (t0 : Int), .int .u8 (t1 : Int)] w fun e w' => e = .returned (.bool true) ∧ Grown w w' := by
  have H12 := Lib.hid (fun a b W => equal_any (kd a) (ix a) (pt a) (kd b) (ix b) (pt b) W (four_kd a) (four_ix a) (four_kd b) (four_ix b) (pt_range a).1 (pt_range a).2 (pt_range b).1 (pt_range b).2)
  go_enter Try.func3, Try.ntmps3
  go_wp2_with fail
  refine (regs_any t0 _).mono ?_
  rintro e w1 ⟨rfl, hg1⟩
  go_wp2_with fail
  refine (regs_any t1 _).mono ?_
  rintro e w2 ⟨rfl, hg2⟩
  go_wp2_with fail
  refine (H12.out t0 t1 _).mono ?_
  rintro e w3 ⟨rfl, hg3⟩
  go_wp2_with fail
  refine (regs_any t0 _).mono ?_
  rintro e w4 ⟨rfl, hg4⟩
  go_wp2_with fail
  refine (regs_any t1 _).mono ?_
  rintro e w5 ⟨rfl, hg5⟩
  go_wp2_with fail
  rw [eq22]
  simp only [Result.andThen_ok]
  go_wp2_with fail
  refine (regs_any t0 _).mono ?_
  rintro e w6 ⟨rfl, hg6⟩
  go_wp2_with fail
  refine (regs_any t0 _).mono ?_
  rintro e w7 ⟨rfl, hg7⟩
  have HS : same3 (kd t0) (ix t0) (pt t0) (kd t0) (ix t0) (pt t0) = true := by simp [same3]
  have HC := Lib.hid (H12.out t0 t0 w7)
  rw [HS] at HC
  clear HS
  go_wp2_with fail
  refine HC.out.mono ?_
  rintro e w8 ⟨rfl, hg8⟩
  go_wp2
  go_ret
  exact ⟨rfl, grow2 (grow2 (grow2 (grow2 hg1 hg2) (grow2 hg3 hg4)) (grow2 hg5 hg6)) (grow2 hg7 hg8)⟩

end Go.Proofs.Ytmonokfibldghaa
