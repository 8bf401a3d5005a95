/- Data at places, in plain Lean: whether no two lie over each other, and where the last one ends. Conditions: none. -/
import Derived.WalkKit
namespace Go.Proofs.YtjmmfhgdjndabaaRR

/-- How many bytes a kind has. -/
def sz (k : Nat) : Nat := 2 ^ (k % 4)
/-- Two data (place, kind) that do not lie over each other. -/
def apart (d e : Nat × Nat) : Bool := decide (d.1 + sz d.2 ≤ e.1) || decide (e.1 + sz e.2 ≤ d.1)
/-- Whether the first k data lie apart. -/
def rightK (l : List (Nat × Nat)) : Nat → Bool
  | 0 => true
  | k + 1 => rightK l k && (l.take k).all (apart (l.getD k (0, 0)))
/-- Where the last of the first k data ends. -/
def mostK (l : List (Nat × Nat)) : Nat → Nat
  | 0 => 0
  | k + 1 => max (mostK l k) ((l.getD k (0, 0)).1 + sz (l.getD k (0, 0)).2)

theorem rightK_no (l : List (Nat × Nat)) : ∀ (k n : Nat), k ≤ n → rightK l k = false → rightK l n = false := by
  intro k n h h0
  induction n with
  | zero =>
    obtain rfl : k = 0 := by omega
    exact h0
  | succ n ih =>
    by_cases e : k = n + 1
    · rw [← e]; exact h0
    · rw [rightK, ih (by omega)]; rfl

theorem sz_le (k : Nat) : sz k ≤ 8 := by
  have h : k % 4 = 0 ∨ k % 4 = 1 ∨ k % 4 = 2 ∨ k % 4 = 3 := by omega
  unfold sz
  rcases h with h | h | h | h <;> rw [h] <;> decide

theorem sz_pos (k : Nat) : 1 ≤ sz k := Nat.one_le_two_pow

theorem mostK_le (l : List (Nat × Nat)) (B : Nat) (h : ∀ p ∈ l, p.1 ≤ B) : ∀ k, k ≤ l.length → mostK l k ≤ B + 8
  | 0, _ => by simp [mostK]
  | k + 1, hk => by
    have h1 := mostK_le l B h k (by omega)
    have h2 := h (l.getD k (0, 0)) (by
      have : k < l.length := by omega
      simp [List.getD_eq_getElem?_getD, this])
    have h3 := sz_le (l.getD k (0, 0)).2
    rw [mostK]
    omega

end Go.Proofs.YtjmmfhgdjndabaaRR
