/- FnSize's small callees: a constant of a kind, the span of a datum, whether two lie over each other. Conditions: kinds below eight, bounds as stated. -/
import Derived.Test.YtjmmfhgdjndabaaRRProg
import Derived.Test.YtjmmfhgdjndabaaRRSpans
import Derived.WalkKit
import Derived.BigRegion
import Derived.BigQuiet
import Derived.Deep.QuietTactic
import Derived.Below
import Derived.Handy
import Derived.Lib.Hide
import Derived.IntWalk
import Derived.Deep.RegionHeld3
namespace Go.Proofs.YtjmmfhgdjndabaaRR
open Go.RowKit

def tyOf : Nat → TypeId
  | 0 => 56
  | 1 => 57
  | 2 => 59
  | 3 => 60
  | 4 => 62
  | 5 => 64
  | 6 => 65
  | _ => 66
def ikOf : Nat → IntKind
  | 0 => .u8
  | 1 => .u16
  | 2 => .u32
  | 3 => .u64
  | 4 => .i8
  | 5 => .i16
  | 6 => .i32
  | _ => .i64
/-- The constant of a kind. -/
def cv (kind : Nat) (b : Int) : Value := .iface (tyOf kind) (.int (ikOf kind) b)

theorem eight {k : Nat} (h : k < 8) : k = 0 ∨ k = 1 ∨ k = 2 ∨ k = 3 ∨ k = 4 ∨ k = 5 ∨ k = 6 ∨ k = 7 := by omega

set_option maxRecDepth 100000 in
theorem constant_any (kind : Nat) (hk : kind < 8) (b : Int) (w : World) (h0 : 0 ≤ b) (h1 : b < 128) :
    Calls Try.prog 8 #[.int .i64 (kind : Int), .int .u64 b] w fun e w' => e = .returned (cv kind b) ∧ w = w' := by
  rcases eight hk with rfl | rfl | rfl | rfl | rfl | rfl | rfl | rfl <;>
  · go_enter Try.func8, Try.ntmps8
    go_wp2
    go_ret
    exact ⟨rfl, rfl⟩

theorem bytes0 (b : Int) (w : World) : Calls Try.prog 38 #[.int .u8 b] w fun e w' => e = .returned (.int .i64 1) ∧ w = w' := by
  go_enter Try.func38, Try.ntmps38
  go_wp2
  go_ret
  exact ⟨rfl, rfl⟩
theorem bytes1 (b : Int) (w : World) : Calls Try.prog 41 #[.int .u16 b] w fun e w' => e = .returned (.int .i64 2) ∧ w = w' := by
  go_enter Try.func41, Try.ntmps41
  go_wp2
  go_ret
  exact ⟨rfl, rfl⟩
theorem bytes2 (b : Int) (w : World) : Calls Try.prog 44 #[.int .u32 b] w fun e w' => e = .returned (.int .i64 4) ∧ w = w' := by
  go_enter Try.func44, Try.ntmps44
  go_wp2
  go_ret
  exact ⟨rfl, rfl⟩
theorem bytes3 (b : Int) (w : World) : Calls Try.prog 47 #[.int .u64 b] w fun e w' => e = .returned (.int .i64 8) ∧ w = w' := by
  go_enter Try.func47, Try.ntmps47
  go_wp2
  go_ret
  exact ⟨rfl, rfl⟩
theorem bytes4 (b : Int) (w : World) : Calls Try.prog 50 #[.int .i8 b] w fun e w' => e = .returned (.int .i64 1) ∧ w = w' := by
  go_enter Try.func50, Try.ntmps50
  go_wp2
  go_ret
  exact ⟨rfl, rfl⟩
theorem bytes5 (b : Int) (w : World) : Calls Try.prog 53 #[.int .i16 b] w fun e w' => e = .returned (.int .i64 2) ∧ w = w' := by
  go_enter Try.func53, Try.ntmps53
  go_wp2
  go_ret
  exact ⟨rfl, rfl⟩
theorem bytes6 (b : Int) (w : World) : Calls Try.prog 56 #[.int .i32 b] w fun e w' => e = .returned (.int .i64 4) ∧ w = w' := by
  go_enter Try.func56, Try.ntmps56
  go_wp2
  go_ret
  exact ⟨rfl, rfl⟩
theorem bytes7 (b : Int) (w : World) : Calls Try.prog 59 #[.int .i64 b] w fun e w' => e = .returned (.int .i64 8) ∧ w = w' := by
  go_enter Try.func59, Try.ntmps59
  go_wp2
  go_ret
  exact ⟨rfl, rfl⟩

set_option maxRecDepth 100000 in
theorem interval_0 (p b : Int) (w : World) (h0 : 0 ≤ p) (h1 : p ≤ 1000) :
    Calls Try.prog 17 #[.agg #[.int .i64 p, cv 0 b]] w fun e w' => e = .returned (.tuple #[.int .i64 p, .int .i64 (p + 1)]) ∧ Below w.heap.size w w' := by
  have hs : IntKind.i64.wrap (p + 1) = p + 1 := IntWalk.i64_in _ (by omega)
  unfold cv tyOf ikOf
  go_enter Try.func17, Try.ntmps17
  go_wp2_with fail
  go_region_held3 (fun w' => w'.cell? ⟨w.heap.size, 0, none⟩ = some (.int .i64 p) ∧ w'.cell? ⟨w.heap.size, 1, none⟩ = some (.iface 56 (.int .u8 b)))
    (go_keep)
    ((first | (go_at_call 38; refine (bytes0 _ _).mono ?_; rintro e w1 ⟨rfl, rfl⟩)))
  go_wp2
  go_ret2
  exact ⟨rfl, ((Below.refl _ _).alloc (Nat.le_refl _) _).drew⟩

set_option maxRecDepth 100000 in
theorem interval_1 (p b : Int) (w : World) (h0 : 0 ≤ p) (h1 : p ≤ 1000) :
    Calls Try.prog 17 #[.agg #[.int .i64 p, cv 1 b]] w fun e w' => e = .returned (.tuple #[.int .i64 p, .int .i64 (p + 2)]) ∧ Below w.heap.size w w' := by
  have hs : IntKind.i64.wrap (p + 2) = p + 2 := IntWalk.i64_in _ (by omega)
  unfold cv tyOf ikOf
  go_enter Try.func17, Try.ntmps17
  go_wp2_with fail
  go_region_held3 (fun w' => w'.cell? ⟨w.heap.size, 0, none⟩ = some (.int .i64 p) ∧ w'.cell? ⟨w.heap.size, 1, none⟩ = some (.iface 57 (.int .u16 b)))
    (go_keep)
    ((first | (go_at_call 41; refine (bytes1 _ _).mono ?_; rintro e w1 ⟨rfl, rfl⟩)))
  go_wp2
  go_ret2
  exact ⟨rfl, ((Below.refl _ _).alloc (Nat.le_refl _) _).drew⟩

set_option maxRecDepth 100000 in
theorem interval_2 (p b : Int) (w : World) (h0 : 0 ≤ p) (h1 : p ≤ 1000) :
    Calls Try.prog 17 #[.agg #[.int .i64 p, cv 2 b]] w fun e w' => e = .returned (.tuple #[.int .i64 p, .int .i64 (p + 4)]) ∧ Below w.heap.size w w' := by
  have hs : IntKind.i64.wrap (p + 4) = p + 4 := IntWalk.i64_in _ (by omega)
  unfold cv tyOf ikOf
  go_enter Try.func17, Try.ntmps17
  go_wp2_with fail
  go_region_held3 (fun w' => w'.cell? ⟨w.heap.size, 0, none⟩ = some (.int .i64 p) ∧ w'.cell? ⟨w.heap.size, 1, none⟩ = some (.iface 59 (.int .u32 b)))
    (go_keep)
    ((first | (go_at_call 44; refine (bytes2 _ _).mono ?_; rintro e w1 ⟨rfl, rfl⟩)))
  go_wp2
  go_ret2
  exact ⟨rfl, ((Below.refl _ _).alloc (Nat.le_refl _) _).drew⟩

set_option maxRecDepth 100000 in
theorem interval_3 (p b : Int) (w : World) (h0 : 0 ≤ p) (h1 : p ≤ 1000) :
    Calls Try.prog 17 #[.agg #[.int .i64 p, cv 3 b]] w fun e w' => e = .returned (.tuple #[.int .i64 p, .int .i64 (p + 8)]) ∧ Below w.heap.size w w' := by
  have hs : IntKind.i64.wrap (p + 8) = p + 8 := IntWalk.i64_in _ (by omega)
  unfold cv tyOf ikOf
  go_enter Try.func17, Try.ntmps17
  go_wp2_with fail
  go_region_held3 (fun w' => w'.cell? ⟨w.heap.size, 0, none⟩ = some (.int .i64 p) ∧ w'.cell? ⟨w.heap.size, 1, none⟩ = some (.iface 60 (.int .u64 b)))
    (go_keep)
    ((first | (go_at_call 47; refine (bytes3 _ _).mono ?_; rintro e w1 ⟨rfl, rfl⟩)))
  go_wp2
  go_ret2
  exact ⟨rfl, ((Below.refl _ _).alloc (Nat.le_refl _) _).drew⟩

set_option maxRecDepth 100000 in
theorem interval_4 (p b : Int) (w : World) (h0 : 0 ≤ p) (h1 : p ≤ 1000) :
    Calls Try.prog 17 #[.agg #[.int .i64 p, cv 4 b]] w fun e w' => e = .returned (.tuple #[.int .i64 p, .int .i64 (p + 1)]) ∧ Below w.heap.size w w' := by
  have hs : IntKind.i64.wrap (p + 1) = p + 1 := IntWalk.i64_in _ (by omega)
  unfold cv tyOf ikOf
  go_enter Try.func17, Try.ntmps17
  go_wp2_with fail
  go_region_held3 (fun w' => w'.cell? ⟨w.heap.size, 0, none⟩ = some (.int .i64 p) ∧ w'.cell? ⟨w.heap.size, 1, none⟩ = some (.iface 62 (.int .i8 b)))
    (go_keep)
    ((first | (go_at_call 50; refine (bytes4 _ _).mono ?_; rintro e w1 ⟨rfl, rfl⟩)))
  go_wp2
  go_ret2
  exact ⟨rfl, ((Below.refl _ _).alloc (Nat.le_refl _) _).drew⟩

set_option maxRecDepth 100000 in
theorem interval_5 (p b : Int) (w : World) (h0 : 0 ≤ p) (h1 : p ≤ 1000) :
    Calls Try.prog 17 #[.agg #[.int .i64 p, cv 5 b]] w fun e w' => e = .returned (.tuple #[.int .i64 p, .int .i64 (p + 2)]) ∧ Below w.heap.size w w' := by
  have hs : IntKind.i64.wrap (p + 2) = p + 2 := IntWalk.i64_in _ (by omega)
  unfold cv tyOf ikOf
  go_enter Try.func17, Try.ntmps17
  go_wp2_with fail
  go_region_held3 (fun w' => w'.cell? ⟨w.heap.size, 0, none⟩ = some (.int .i64 p) ∧ w'.cell? ⟨w.heap.size, 1, none⟩ = some (.iface 64 (.int .i16 b)))
    (go_keep)
    ((first | (go_at_call 53; refine (bytes5 _ _).mono ?_; rintro e w1 ⟨rfl, rfl⟩)))
  go_wp2
  go_ret2
  exact ⟨rfl, ((Below.refl _ _).alloc (Nat.le_refl _) _).drew⟩

set_option maxRecDepth 100000 in
theorem interval_6 (p b : Int) (w : World) (h0 : 0 ≤ p) (h1 : p ≤ 1000) :
    Calls Try.prog 17 #[.agg #[.int .i64 p, cv 6 b]] w fun e w' => e = .returned (.tuple #[.int .i64 p, .int .i64 (p + 4)]) ∧ Below w.heap.size w w' := by
  have hs : IntKind.i64.wrap (p + 4) = p + 4 := IntWalk.i64_in _ (by omega)
  unfold cv tyOf ikOf
  go_enter Try.func17, Try.ntmps17
  go_wp2_with fail
  go_region_held3 (fun w' => w'.cell? ⟨w.heap.size, 0, none⟩ = some (.int .i64 p) ∧ w'.cell? ⟨w.heap.size, 1, none⟩ = some (.iface 65 (.int .i32 b)))
    (go_keep)
    ((first | (go_at_call 56; refine (bytes6 _ _).mono ?_; rintro e w1 ⟨rfl, rfl⟩)))
  go_wp2
  go_ret2
  exact ⟨rfl, ((Below.refl _ _).alloc (Nat.le_refl _) _).drew⟩

set_option maxRecDepth 100000 in
theorem interval_7 (p b : Int) (w : World) (h0 : 0 ≤ p) (h1 : p ≤ 1000) :
    Calls Try.prog 17 #[.agg #[.int .i64 p, cv 7 b]] w fun e w' => e = .returned (.tuple #[.int .i64 p, .int .i64 (p + 8)]) ∧ Below w.heap.size w w' := by
  have hs : IntKind.i64.wrap (p + 8) = p + 8 := IntWalk.i64_in _ (by omega)
  unfold cv tyOf ikOf
  go_enter Try.func17, Try.ntmps17
  go_wp2_with fail
  go_region_held3 (fun w' => w'.cell? ⟨w.heap.size, 0, none⟩ = some (.int .i64 p) ∧ w'.cell? ⟨w.heap.size, 1, none⟩ = some (.iface 66 (.int .i64 b)))
    (go_keep)
    ((first | (go_at_call 59; refine (bytes7 _ _).mono ?_; rintro e w1 ⟨rfl, rfl⟩)))
  go_wp2
  go_ret2
  exact ⟨rfl, ((Below.refl _ _).alloc (Nat.le_refl _) _).drew⟩

/-- The span of a datum. -/
theorem interval_any (kind : Nat) (hk : kind < 8) (p b : Int) (w : World) (h0 : 0 ≤ p) (h1 : p ≤ 1000) :
    Calls Try.prog 17 #[.agg #[.int .i64 p, cv kind b]] w fun e w' => e = .returned (.tuple #[.int .i64 p, .int .i64 (p + (sz kind : Nat))]) ∧ Below w.heap.size w w' := by
  rcases eight hk with rfl | rfl | rfl | rfl | rfl | rfl | rfl | rfl
  · exact interval_0 p b w h0 h1
  · exact interval_1 p b w h0 h1
  · exact interval_2 p b w h0 h1
  · exact interval_3 p b w h0 h1
  · exact interval_4 p b w h0 h1
  · exact interval_5 p b w h0 h1
  · exact interval_6 p b w h0 h1
  · exact interval_7 p b w h0 h1

/-- Whether a span lies over another one. -/
def over (p n p' n' : Int) : Bool := !(decide (p' + n' ≤ p) || decide (p + n ≤ p'))

theorem new2 (w : World) (p : Int) (c : Value) (p' : Int) (c' : Value) (t : TypeId) :
    ((w.alloc (.cells #[.int .i64 p, c] t)).alloc (.cells #[.int .i64 p', c'] t)).cell? ⟨w.heap.size + 1, 0, none⟩ = some (.int .i64 p') ∧ ((w.alloc (.cells #[.int .i64 p, c] t)).alloc (.cells #[.int .i64 p', c'] t)).cell? ⟨w.heap.size + 1, 1, none⟩ = some c' := by
  have h : w.heap.size + 1 = (w.alloc (.cells #[.int .i64 p, c] t)).heap.size := by simp
  rw [h]
  constructor <;> simp

set_option maxRecDepth 100000 in
theorem overlaps_num (kind kind' : Nat) (hk : kind < 8) (hk' : kind' < 8) (p b p' b' n n' : Int) (r : Bool) (w : World) (h0 : 0 ≤ p) (h1 : p ≤ 1000) (h0' : 0 ≤ p') (h1' : p' ≤ 1000)
    (hn : Hid (n = p + (sz kind : Nat))) (hn' : Hid (n' = p' + (sz kind' : Nat))) (hr : (decide (n' ≤ p) = true ∧ r = false) ∨ (decide (n' ≤ p) = false ∧ decide (n ≤ p') = !r)) :
    Calls Try.prog 15 #[.agg #[.int .i64 p, cv kind b], .agg #[.int .i64 p', cv kind' b']] w fun e w' => e = .returned (.bool r) ∧ Below w.heap.size w w' := by
  have H1 := Lib.hid (fun W => interval_any kind hk p b W h0 h1)
  have H2 := Lib.hid (fun W => interval_any kind' hk' p' b' W h0' h1')
  rw [← hn.out] at H1
  rw [← hn'.out] at H2
  obtain ⟨c, hc⟩ : ∃ c, cv kind b = c := ⟨_, rfl⟩
  obtain ⟨c', hc'⟩ : ∃ c', cv kind' b' = c' := ⟨_, rfl⟩
  rw [hc] at H1 ⊢
  rw [hc'] at H2 ⊢
  clear hc hc' hn hn'
  rcases hr with ⟨d1, rfl⟩ | ⟨d1, d2⟩ <;>
  · go_enter Try.func15, Try.ntmps15
    go_wp2_with fail
    refine (H1.out _).mono ?_
    rintro e w1 ⟨rfl, hg1⟩
    have k0 := (hg1.cell (p := ⟨w.heap.size + 1, 0, none⟩) (by simp)).trans (new2 w p c p' c' 54).1
    have k1 := (hg1.cell (p := ⟨w.heap.size + 1, 1, none⟩) (by simp)).trans (new2 w p c p' c' 54).2
    have g1 : Below w.heap.size w w1 := (((Below.refl _ _).alloc (Nat.le_refl _) _).alloc (by simp) _).trans (hg1.mono (by simp; omega))
    clear hg1
    go_wp2_with fail
    refine (H2.out _).mono ?_
    rintro e w2 ⟨rfl, hg2⟩
    have g2 := g1.trans (hg2.mono g1.size)
    clear hg2
    go_wp2
    go_ret
    exact ⟨rfl, g2⟩

/-- Whether a datum lies over another one. -/
theorem overlaps_any (kind kind' : Nat) (hk : kind < 8) (hk' : kind' < 8) (p p' : Nat) (b b' : Int) (w : World) (h1 : p ≤ 1000) (h1' : p' ≤ 1000) :
    Calls Try.prog 15 #[.agg #[.int .i64 (p : Int), cv kind b], .agg #[.int .i64 (p' : Int), cv kind' b']] w fun e w' => e = .returned (.bool (!apart (p, kind) (p', kind'))) ∧ Below w.heap.size w w' := by
  refine overlaps_num kind kind' hk hk' p b p' b' _ _ _ w (by omega) (by omega) (by omega) (by omega) (Lib.hid rfl) (Lib.hid rfl) ?_
  unfold apart
  by_cases h : p' + sz kind' ≤ p
  · left
    constructor
    · simp; omega
    · simp; omega
  · right
    constructor
    · simp; omega
    · by_cases h2 : p + sz kind ≤ p'
      · have : ((p : Int) + (sz kind : Nat) ≤ p') := by omega
        simp [h2, this]
      · have : ¬ ((p : Int) + (sz kind : Nat) ≤ p') := by omega
        simp [h2, this, h]

end Go.Proofs.YtjmmfhgdjndabaaRR
