/- Attributes' names, in plain Lean: which bits a number has, their names, and these joined. Conditions: twelve bits, the eighth one not set. -/
import Derived.Laws.BitsAllLaws
import Derived.Laws.BitsLemmas
import Derived.Lib.Join
import Derived.KernelRfl
namespace Go.Proofs.YtjmmfhgdjndabaaRRDoor
open Go

/-- The names of the twelve bits. -/
def nm : Nat → List UInt8
  | 0 => [78, 79, 80, 82, 79, 70]
  | 1 => [68, 85, 80, 79, 75]
  | 2 => [78, 79, 83, 80, 76, 73, 84]
  | 3 => [82, 79, 68, 65, 84, 65]
  | 4 => [78, 79, 80, 84, 82]
  | 5 => [87, 82, 65, 80, 80, 69, 82]
  | 6 => [78, 69, 69, 68, 67, 84, 88, 84]
  | 8 => [84, 76, 83, 66, 83, 83]
  | 9 => [78, 79, 70, 82, 65, 77, 69]
  | 10 => [82, 69, 70, 76, 69, 67, 84, 77, 69, 84, 72, 79, 68]
  | 11 => [84, 79, 80, 70, 82, 65, 77, 69]
  | _ => []

/-- Which of the first k bits are set. -/
def IX (a k : Nat) : List Nat := (List.range k).filter fun i => decide (a / 2 ^ i % 2 = 1)
/-- Their names. -/
def NB (a k : Nat) : List (List UInt8) := (IX a k).map nm
/-- The number without its first k bits. -/
def cl (a k : Nat) : Nat := a / 2 ^ k * 2 ^ k
/-- The eighth bit isn't set. -/
def Good (a : Nat) : Prop := a < 4096 ∧ a / 128 % 2 = 0

theorem NB_zero (a : Nat) : NB a 0 = [] := rfl
theorem NB_set {a k : Nat} (h : a / 2 ^ k % 2 = 1) : NB a (k + 1) = NB a k ++ [nm k] := by
  unfold NB IX
  rw [List.range_succ, List.filter_append, List.map_append]
  simp [h]
theorem NB_not {a k : Nat} (h : ¬ a / 2 ^ k % 2 = 1) : NB a (k + 1) = NB a k := by
  unfold NB IX
  rw [List.range_succ, List.filter_append, List.map_append]
  simp [h]

theorem cl_ok : ((List.range 4096).all fun a => (List.range 12).all fun k => decide (cl a k &&& (18446744073709551615 - 2 ^ k) = cl a (k + 1))) = true := by decide +kernel
theorem cl_step {a k : Nat} (ha : a < 4096) (hk : k < 12) : cl a k &&& (18446744073709551615 - 2 ^ k) = cl a (k + 1) :=
  of_decide_eq_true (List.all_eq_true.1 (List.all_eq_true.1 cl_ok a (List.mem_range.2 ha)) k (List.mem_range.2 hk))

/-- The lowest bit that is set. -/
def lo (x : Nat) : Nat := ((List.range 12).find? fun i => decide (x / 2 ^ i % 2 = 1)).getD 0
def loOk (x : Nat) : Bool :=
  decide (x = 0) || decide (x / 128 % 2 = 1) ||
    (decide (lo x < 12) && decide (lo x ≠ 7) && decide (IX x 12 = lo x :: IX (x - 2 ^ lo x) 12) && decide (x &&& (65536 - x) = 2 ^ lo x) && decide (x ^^^ 2 ^ lo x = x - 2 ^ lo x) && decide ((x - 2 ^ lo x) / 128 % 2 = 0) && decide (2 ^ lo x ≤ x))
theorem lo_ok : ((List.range 4096).all loOk) = true := by decide +kernel
theorem lo_facts {x : Nat} (hx : Good x) (h0 : 0 < x) : lo x < 12 ∧ lo x ≠ 7 ∧ IX x 12 = lo x :: IX (x - 2 ^ lo x) 12 ∧ x &&& (65536 - x) = 2 ^ lo x ∧ x ^^^ 2 ^ lo x = x - 2 ^ lo x ∧ Good (x - 2 ^ lo x) ∧ 2 ^ lo x ≤ x := by
  have h := List.all_eq_true.1 lo_ok x (List.mem_range.2 hx.1)
  unfold loOk at h
  simp only [Bool.or_eq_true, Bool.and_eq_true, decide_eq_true_eq] at h
  have h2 := hx.2
  have h1 := hx.1
  rcases h with (h | h) | h
  · omega
  · omega
  · obtain ⟨⟨⟨⟨⟨⟨p1, p2⟩, p3⟩, p4⟩, p5⟩, p6⟩, p7⟩ := h
    exact ⟨p1, p2, p3, p4, p5, ⟨by omega, p6⟩, p7⟩

theorem NB_lo {x : Nat} (hx : Good x) (h0 : 0 < x) : NB x 12 = nm (lo x) :: NB (x - 2 ^ lo x) 12 := by
  unfold NB
  rw [(lo_facts hx h0).2.2.1]
  rfl

/-- Names are not empty. -/
theorem nm_ne {k : Nat} (hk : k < 12) (h7 : k ≠ 7) : nm k ≠ [] := by
  have h : k = 0 ∨ k = 1 ∨ k = 2 ∨ k = 3 ∨ k = 4 ∨ k = 5 ∨ k = 6 ∨ k = 8 ∨ k = 9 ∨ k = 10 ∨ k = 11 := by omega
  rcases h with rfl | rfl | rfl | rfl | rfl | rfl | rfl | rfl | rfl | rfl | rfl <;> decide
theorem nm_len (k : Nat) : (nm k).length ≤ 13 := by
  unfold nm
  split <;> decide

/-- The names, joined. -/
def JN (a k : Nat) : List UInt8 := Lib.join (NB a k) [124]

theorem join_snoc (xs : List (List UInt8)) (y sep : List UInt8) (h : xs ≠ []) : Lib.join (xs ++ [y]) sep = Lib.join xs sep ++ (sep ++ y) := by
  cases xs with
  | nil => exact absurd rfl h
  | cons x r =>
    rw [List.cons_append, Lib.join_cons, Lib.join_cons]
    simp [Lib.joinTail]

theorem JN_first {a k : Nat} (h : a / 2 ^ k % 2 = 1) (h0 : NB a k = []) : JN a (k + 1) = nm k := by
  unfold JN
  rw [NB_set h, h0]
  exact Lib.join_one _ _
theorem JN_more {a k : Nat} (h : a / 2 ^ k % 2 = 1) (h0 : NB a k ≠ []) : JN a (k + 1) = JN a k ++ (124 :: nm k) := by
  unfold JN
  rw [NB_set h, join_snoc _ _ _ h0]
  rfl
theorem JN_not {a k : Nat} (h : ¬ a / 2 ^ k % 2 = 1) : JN a (k + 1) = JN a k := by
  unfold JN
  rw [NB_not h]

theorem NB_len (a : Nat) : ∀ k, (NB a k).length ≤ k
  | 0 => by simp [NB_zero]
  | k + 1 => by
    have := NB_len a k
    by_cases h : a / 2 ^ k % 2 = 1
    · rw [NB_set h]; simp; omega
    · rw [NB_not h]; omega
theorem JN_len (a : Nat) : ∀ k, (JN a k).length ≤ 14 * k
  | 0 => by simp [JN, NB_zero, Lib.join_nil]
  | k + 1 => by
    have h1 := JN_len a k
    have h2 := nm_len k
    by_cases h : a / 2 ^ k % 2 = 1
    · by_cases h0 : NB a k = []
      · rw [JN_first h h0]; omega
      · rw [JN_more h h0]; simp; omega
    · rw [JN_not h]; omega
/-- The joined names are empty exactly if there are none. -/
theorem JN_ne {a : Nat} (ha : Good a) : ∀ k, k ≤ 12 → NB a k ≠ [] → JN a k ≠ []
  | 0, _, h => absurd rfl h
  | k + 1, hk, h => by
    by_cases h1 : a / 2 ^ k % 2 = 1
    · by_cases h0 : NB a k = []
      · rw [JN_first h1 h0]
        refine nm_ne (by omega) (fun e => ?_)
        subst e
        have := ha.2
        simp at h1
        omega
      · rw [JN_more h1 h0]; simp
    · rw [JN_not h1]
      rw [NB_not h1] at h
      exact JN_ne ha k (by omega) h

theorem ofInt64 (a : Nat) (ha : a < 65536) : (BitVec.ofInt 64 (a : Int)).toNat = a := by
  rw [BitVec.ofInt_natCast, BitVec.toNat_ofNat]; exact Nat.mod_eq_of_lt (by omega)
theorem i64_and_small (a b : Nat) (ha : a < 65536) (hb : b < 65536) : bits .and .i64 (a : Int) (b : Int) = ((a &&& b : Nat) : Int) := by
  have hx : a &&& b < 2 ^ 16 := Nat.and_lt_two_pow _ (by omega)
  show IntKind.i64.wrap ((BitVec.ofInt 64 (a : Int) &&& BitVec.ofInt 64 (b : Int)).toNat : Int) = _
  rw [BitVec.toNat_and, ofInt64 a ha, ofInt64 b hb, IntKind.wrap_i64]
  omega
theorem i64_andNot_small (a b : Nat) (ha : a < 65536) (hb : b < 65536) : bits .andNot .i64 (a : Int) (b : Int) = ((a &&& (18446744073709551615 - b) : Nat) : Int) := by
  have hx : a &&& (18446744073709551615 - b) ≤ a := Nat.and_le_left
  show IntKind.i64.wrap ((BitVec.ofInt 64 (a : Int) &&& ~~~BitVec.ofInt 64 (b : Int)).toNat : Int) = _
  rw [BitVec.toNat_and, BitVec.toNat_not, ofInt64 a ha, ofInt64 b hb, IntKind.wrap_i64]
  have e : 2 ^ 64 - 1 - b = 18446744073709551615 - b := by omega
  rw [e]
  omega

end Go.Proofs.YtjmmfhgdjndabaaRRDoor
