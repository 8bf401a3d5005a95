/- Constraints of options of terms, in plain Lean: their texts, the texts' parts, and what they tell of tags. Conditions: none. -/
import Derived.Lib.Join
import Derived.Lib.Small
import Derived.Lib.Strings
import Derived.Lib.Latin
import Derived.KernelRfl
namespace Go.Proofs.YtjmmfhgdjndabaaRRDoor
open Go

/-- The six tags. -/
def tg : Nat → List UInt8
  | 0 => [108, 105, 110, 117, 120]
  | 1 => [97, 109, 100, 54, 52]
  | 2 => [112, 117, 114, 101, 103, 111]
  | 3 => [103, 111, 49]
  | 4 => [99, 103, 111]
  | _ => [120, 95, 121]
/-- A term: negated or not, and its tag. -/
abbrev Tm := Bool × Nat
def tt (t : Tm) : List UInt8 := (if t.1 then [33] else []) ++ tg t.2
def ot (o : List Tm) : List UInt8 := Lib.join (o.map tt) [44]
def ct (c : List (List Tm)) : List UInt8 := Lib.join (c.map ot) [32]
/-- What a term, an option and a constraint tell of tags. -/
def tv (tags : Nat) (t : Tm) : Bool := decide (tags / 2 ^ t.2 % 2 = 1) != t.1
def ov (tags : Nat) (o : List Tm) : Bool := o.all (tv tags)
def cv (tags : Nat) (c : List (List Tm)) : Bool := c.any (ov tags)

/-- A sign of a term. -/
def signOk (b : UInt8) : Bool := decide (b ≠ 44) && decide (33 ≤ b.toNat) && decide (b.toNat < 128)
theorem tg_ok (x : Nat) : (tg x).all signOk = true := by
  unfold tg
  split <;> decide
theorem tt_ok (t : Tm) : ∀ b ∈ tt t, signOk b = true := by
  intro b hb
  unfold tt at hb
  rcases List.mem_append.1 hb with h | h
  · split at h
    · simp at h; subst h; decide
    · simp at h
  · exact List.all_eq_true.1 (tg_ok t.2) b h
theorem tg_ne (x : Nat) : tg x ≠ [] := by
  unfold tg
  split <;> decide
theorem tg_len (x : Nat) : (tg x).length ≤ 6 := by
  unfold tg
  split <;> decide
theorem tt_ne (t : Tm) : tt t ≠ [] := by
  unfold tt
  intro h
  exact tg_ne t.2 (List.append_eq_nil_iff.1 h).2
theorem tt_len (t : Tm) : (tt t).length ≤ 7 := by
  have := tg_len t.2
  unfold tt
  split <;> simp <;> omega

theorem mem_join {xs : List (List UInt8)} {sep : List UInt8} {b : UInt8} (h : b ∈ Lib.join xs sep) : (∃ x ∈ xs, b ∈ x) ∨ b ∈ sep := by
  cases xs with
  | nil => simp [Lib.join_nil] at h
  | cons x r =>
    rw [Lib.join_cons] at h
    rcases List.mem_append.1 h with h | h
    · exact .inl ⟨x, by simp, h⟩
    · unfold Lib.joinTail at h
      obtain ⟨y, hy, hb⟩ := List.mem_flatten.1 h
      obtain ⟨z, hz, rfl⟩ := List.mem_map.1 hy
      rcases List.mem_append.1 hb with h | h
      · exact .inr h
      · exact .inl ⟨z, by simp [hz], h⟩
theorem join_len {xs : List (List UInt8)} {sep : List UInt8} {n : Nat} (h : ∀ x ∈ xs, x.length ≤ n) : (Lib.join xs sep).length ≤ xs.length * (n + sep.length) := by
  cases xs with
  | nil => simp [Lib.join_nil]
  | cons x r =>
    rw [Lib.join_cons, List.length_append]
    have h1 := h x (by simp)
    have h2 : ∀ r : List (List UInt8), (∀ x ∈ r, x.length ≤ n) → (Lib.joinTail sep r).length ≤ r.length * (n + sep.length) := by
      intro r
      induction r with
      | nil => intro _; simp [Lib.joinTail]
      | cons y s ih =>
        intro hs
        have a1 := hs y (by simp)
        have a2 := ih (fun x hx => hs x (by simp [hx]))
        unfold Lib.joinTail at a2 ⊢
        simp [Nat.add_mul] at a2 ⊢
        omega
    have h3 := h2 r (fun x hx => h x (by simp [hx]))
    simp [Nat.add_mul]
    omega

theorem ot_ok (o : List Tm) : ∀ b ∈ ot o, 33 ≤ b.toNat ∧ b.toNat < 128 := by
  intro b hb
  rcases mem_join hb with ⟨x, hx, h⟩ | h
  · obtain ⟨t, _, rfl⟩ := List.mem_map.1 hx
    have := tt_ok t b h
    simp [signOk] at this
    exact ⟨this.1.2, this.2⟩
  · simp at h; subst h; decide
theorem ct_ok (c : List (List Tm)) : ∀ b ∈ ct c, 32 ≤ b.toNat ∧ b.toNat < 128 := by
  intro b hb
  rcases mem_join hb with ⟨x, hx, h⟩ | h
  · obtain ⟨o, _, rfl⟩ := List.mem_map.1 hx
    have := ot_ok o b h
    exact ⟨by omega, this.2⟩
  · simp at h; subst h; decide
theorem ot_ne {o : List Tm} (h : o ≠ []) : ot o ≠ [] := by
  cases o with
  | nil => exact absurd rfl h
  | cons t r =>
    unfold ot
    rw [List.map_cons, Lib.join_cons]
    intro e
    exact tt_ne t (List.append_eq_nil_iff.1 e).1
theorem ot_len {o : List Tm} (h : o.length ≤ 3) : (ot o).length ≤ 24 := by
  have := join_len (xs := o.map tt) (sep := [44]) (n := 7) (fun x hx => by obtain ⟨t, _, rfl⟩ := List.mem_map.1 hx; exact tt_len t)
  unfold ot
  simp at this
  omega
theorem ct_len {c : List (List Tm)} (h : c.length ≤ 6) (ho : ∀ o ∈ c, o.length ≤ 3) : (ct c).length ≤ 150 := by
  have := join_len (xs := c.map ot) (sep := [32]) (n := 24) (fun x hx => by obtain ⟨o, hm, rfl⟩ := List.mem_map.1 hx; exact ot_len (ho o hm))
  unfold ct
  simp at this
  omega

/-! ### a text's parts between commas -/
def splitStep (out : List (List UInt8)) (b : UInt8) : List (List UInt8) := if b = 44 then out ++ [[]] else out.dropLast ++ [out.getLastD [] ++ [b]]
theorem split_plain : ∀ (x : List UInt8) (out : List (List UInt8)) (y : List UInt8), (∀ b ∈ x, b ≠ 44) → x.foldl splitStep (out ++ [y]) = out ++ [y ++ x]
  | [], out, y, _ => by simp
  | b :: r, out, y, h => by
    have e : splitStep (out ++ [y]) b = out ++ [y ++ [b]] := by
      unfold splitStep
      rw [if_neg (h b (by simp))]
      simp
    rw [List.foldl_cons, e, split_plain r out (y ++ [b]) (fun c hc => h c (by simp [hc]))]
    simp
theorem split_tail : ∀ (r : List (List UInt8)) (out : List (List UInt8)), (∀ x ∈ r, ∀ b ∈ x, b ≠ 44) → (Lib.joinTail [44] r).foldl splitStep out = out ++ r
  | [], out, _ => by simp [Lib.joinTail]
  | x :: r, out, h => by
    have e : Lib.joinTail [44] (x :: r) = 44 :: (x ++ Lib.joinTail [44] r) := by simp [Lib.joinTail]
    rw [e, List.foldl_cons, List.foldl_append]
    have e2 : splitStep out 44 = out ++ [[]] := by unfold splitStep; rw [if_pos rfl]
    rw [e2, split_plain x out [] (h x (by simp)), List.nil_append, split_tail r (out ++ [x]) (fun y hy => h y (by simp [hy]))]
    simp
theorem split_join {xs : List (List UInt8)} (h0 : xs ≠ []) (h : ∀ x ∈ xs, ∀ b ∈ x, b ≠ 44) : (Lib.join xs [44]).foldl splitStep [[]] = xs := by
  cases xs with
  | nil => exact absurd rfl h0
  | cons x r =>
    rw [Lib.join_cons, List.foldl_append]
    have := split_plain x [] [] (h x (by simp))
    rw [List.nil_append, List.nil_append] at this
    rw [this, split_tail r _ (fun y hy => h y (by simp [hy]))]
    simp
theorem split_ot {o : List Tm} (h : o ≠ []) : (ot o).foldl splitStep [[]] = o.map tt :=
  split_join (by simpa using h) (fun x hx b hb => by
    obtain ⟨t, _, rfl⟩ := List.mem_map.1 hx
    have := tt_ok t b hb
    simp [signOk] at this
    exact this.1.1)
theorem split_ne : ∀ (x : List UInt8) (out : List (List UInt8)), out ≠ [] → x.foldl splitStep out ≠ []
  | [], _, h => h
  | b :: r, out, h => by
    rw [List.foldl_cons]
    refine split_ne r _ ?_
    unfold splitStep
    split <;> simp

/-! ### a text's parts between blanks -/
def fieldStep (s : List (List UInt8) × List UInt8) (b : UInt8) : List (List UInt8) × List UInt8 := if b = 32 then (if s.2 = [] then s.1 else s.1 ++ [s.2], []) else (s.1, s.2 ++ [b])
def fieldEnd (s : List (List UInt8) × List UInt8) : List (List UInt8) := if s.2 = [] then s.1 else s.1 ++ [s.2]
theorem field_plain : ∀ (x : List UInt8) (out : List (List UInt8)) (p : List UInt8), (∀ b ∈ x, b ≠ 32) → x.foldl fieldStep (out, p) = (out, p ++ x)
  | [], out, p, _ => by simp
  | b :: r, out, p, h => by
    have e : fieldStep (out, p) b = (out, p ++ [b]) := by unfold fieldStep; rw [if_neg (h b (by simp))]
    rw [List.foldl_cons, e, field_plain r out (p ++ [b]) (fun c hc => h c (by simp [hc]))]
    simp
theorem field_tail : ∀ (r : List (List UInt8)) (out : List (List UInt8)) (p : List UInt8), p ≠ [] → (∀ x ∈ r, x ≠ [] ∧ ∀ b ∈ x, b ≠ 32) → fieldEnd ((Lib.joinTail [32] r).foldl fieldStep (out, p)) = out ++ (p :: r)
  | [], out, p, hp, _ => by simp [Lib.joinTail, fieldEnd, hp]
  | x :: r, out, p, hp, h => by
    have e : Lib.joinTail [32] (x :: r) = 32 :: (x ++ Lib.joinTail [32] r) := by simp [Lib.joinTail]
    rw [e, List.foldl_cons, List.foldl_append]
    have e2 : fieldStep (out, p) 32 = (out ++ [p], []) := by unfold fieldStep; rw [if_pos rfl, if_neg hp]
    rw [e2, field_plain x _ [] (h x (by simp)).2, List.nil_append, field_tail r _ x (h x (by simp)).1 (fun y hy => h y (by simp [hy]))]
    simp
theorem field_join {xs : List (List UInt8)} (h : ∀ x ∈ xs, x ≠ [] ∧ ∀ b ∈ x, b ≠ 32) : fieldEnd ((Lib.join xs [32]).foldl fieldStep ([], [])) = xs := by
  cases xs with
  | nil => rfl
  | cons x r =>
    rw [Lib.join_cons, List.foldl_append, field_plain x [] [] (h x (by simp)).2, List.nil_append, field_tail r [] x (h x (by simp)).1 (fun y hy => h y (by simp [hy]))]
    rfl
theorem field_ct {c : List (List Tm)} (h : ∀ o ∈ c, o ≠ []) : fieldEnd ((ct c).foldl fieldStep ([], [])) = c.map ot :=
  field_join (fun x hx => by
    obtain ⟨o, hm, rfl⟩ := List.mem_map.1 hx
    exact ⟨ot_ne (h o hm), fun b hb e => by have := (ot_ok o b hb).1; rw [e] at this; exact absurd this (by decide)⟩)

/-! ### what the statements make of a list of numbers -/
def opt (n k : Nat) : List Tm := (List.range (1 + n % 3)).map fun j => (decide (n / 2 ^ (5 + j) % 2 = 1), (n / 4 + 5 * j + k) % 6)
def con (l : List Nat) (m : Nat) : List (List Tm) := (List.range m).map fun k => opt (l.getD k 0) k
theorem opt_len (n k : Nat) : (opt n k).length ≤ 3 := by
  have := Nat.mod_lt n (show 0 < 3 by decide)
  simp [opt]
  omega
theorem opt_ne (n k : Nat) : opt n k ≠ [] := by
  intro h
  have := congrArg List.length h
  simp [opt] at this
theorem opt_x (n k : Nat) : ∀ t ∈ opt n k, t.2 < 6 := by
  intro t ht
  obtain ⟨j, _, rfl⟩ := List.mem_map.1 ht
  exact Nat.mod_lt _ (by decide)

end Go.Proofs.YtjmmfhgdjndabaaRRDoor
