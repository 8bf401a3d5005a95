/- Rows of structs of a call's own: what their cells are, and one element appended. Conditions: as stated. -/
import Derived.Test.YtdajihikedjaiaaProg
import Derived.WalkKit
import Derived.Below
import Derived.Lib.Hide
import Derived.Maps.AppendAt
import Derived.Deep.AppendLies
namespace Go.Proofs.Ytdajihikedjaiaa
open Go.RowKit

theorem len_flat {α : Type} {f : α → List Value} {s : Nat} (hf : ∀ x, (f x).length = s) (l : List α) : (l.flatMap f).length = l.length * s := by
  induction l with
  | nil => simp
  | cons x r ih => rw [List.flatMap_cons, List.length_append, ih, hf]; simp [Nat.add_mul]; omega
theorem flat_at {α : Type} {f : α → List Value} {s : Nat} (hf : ∀ x, (f x).length = s) (l : List α) : ∀ {k : Nat} {x : α}, l[k]? = some x → ∀ (j : Nat) (u : Value), (f x)[j]? = some u → (l.flatMap f)[k * s + j]? = some u := by
  induction l with
  | nil => intro k x h; simp at h
  | cons y r ih =>
    intro k x h j u hu
    rw [List.flatMap_cons]
    have hj : j < s := by rw [← hf x]; exact (List.getElem?_eq_some_iff.1 hu).1
    cases k with
    | zero =>
      simp at h; subst h
      rw [Nat.zero_mul, Nat.zero_add, List.getElem?_append_left (by rw [hf]; exact hj)]
      exact hu
    | succ k =>
      have h' : r[k]? = some x := by simpa using h
      rw [List.getElem?_append_right (by rw [hf, Nat.add_mul]; omega), hf]
      have e : (k + 1) * s + j - s = k * s + j := by rw [Nat.add_mul]; omega
      rw [e]
      exact ih h' j u hu

/-- A slice of the call's own that holds the elements l, each by its cells. -/
def OwnR {α : Type} (f : α → List Value) (s : Nat) (e : TypeId) (w : World) (base : Nat) (v : Value) (l : List α) : Prop := w.ownsRow base e s v l.length (l.flatMap f)
/-- A slice value reads as the elements l. -/
def RowR {α : Type} (f : α → List Value) (s : Nat) (w : World) (A : Option Addr) (l : List α) : Prop :=
  0 < l.length → ∃ g, A = some ⟨g, 0, none⟩ ∧ g < w.heap.size ∧ ∀ k x, l[k]? = some x → ∀ j u, (f x)[j]? = some u → w.cell? ⟨g, k * s + j, none⟩ = some u

theorem OwnR.form {α : Type} {f : α → List Value} {s : Nat} (hf : ∀ x, (f x).length = s) {e : TypeId} {w : World} {base : Nat} {v : Value} {l : List α} (h : OwnR f s e w base v l) : ∃ A c, v = .slice A l.length c ∧ RowR f s w A l := by
  obtain ⟨h1, ⟨rfl, h2⟩ | ⟨g, cap, cur, rfl, hb, hh, hn, hm, hs, ht⟩⟩ := h
  · exact ⟨none, 0, by rw [h2], fun hp => by omega⟩
  · refine ⟨_, cap, rfl, fun _ => ⟨g, rfl, (Array.getElem?_eq_some_iff.1 hh).1, fun k x hx j u hu => ?_⟩⟩
    have := flat_at hf l hx j u hu
    have hlt : k * s + j < l.length * s := by rw [← len_flat hf l]; exact (List.getElem?_eq_some_iff.1 this).1
    rw [← ht, List.getElem?_take, if_pos hlt] at this
    rw [cell_of_row w g _ cur e (0, 0) hh]
    simpa using this
theorem OwnR.kept {α : Type} {f : α → List Value} {s : Nat} {e : TypeId} {w w' : World} {base : Nat} {v : Value} {l : List α} {row : Option Nat} (h : OwnR f s e w base v l) (hg : w.grownBy w' row) (hne : v.ownBlock = none ∨ v.ownBlock ≠ row) : OwnR f s e w' base v l := World.ownsRow.kept h hg hne
theorem OwnR.alloc {α : Type} {f : α → List Value} {s : Nat} {e : TypeId} {w : World} {base : Nat} {v : Value} {l : List α} (h : OwnR f s e w base v l) (o : Obj) : OwnR f s e (w.alloc o) base v l := World.ownsRow.alloc h o
theorem OwnR.below {α : Type} {f : α → List Value} {s : Nat} {e : TypeId} {w w' : World} {base : Nat} {v : Value} {l : List α} (h : OwnR f s e w base v l) (hb : Below w.heap.size w w') : OwnR f s e w' base v l :=
  h.kept (row := none) ⟨hb.os, hb.tape, hb.output, hb.size, fun i hi _ => hb.block i hi⟩ (by cases v.ownBlock <;> simp)
theorem OwnR.nil {α : Type} (f : α → List Value) (s : Nat) (e : TypeId) (w : World) (base : Nat) : OwnR f s e w base (.slice none 0 0) [] := World.ownsRow_nil w base e s
theorem OwnR.le {α : Type} {f : α → List Value} {s : Nat} {e : TypeId} {w : World} {base : Nat} {v : Value} {l : List α} (h : OwnR f s e w base v l) : ∀ q, v.ownBlock = some q → base ≤ q := fun q hq => by
  rcases h.2 with ⟨rfl, _⟩ | ⟨g, cap, cur, rfl, hb, _⟩
  · simp [Value.ownBlock] at hq
  · simp [Value.ownBlock] at hq; omega
theorem OwnR.lt {α : Type} {f : α → List Value} {s : Nat} {e : TypeId} {w : World} {base : Nat} {v : Value} {l : List α} (h : OwnR f s e w base v l) : ∀ q, v.ownBlock = some q → q < w.heap.size := fun q hq => by
  rcases h.2 with ⟨rfl, _⟩ | ⟨g, cap, cur, rfl, _, hh, _⟩
  · simp [Value.ownBlock] at hq
  · simp [Value.ownBlock] at hq; subst hq; exact (Array.getElem?_eq_some_iff.1 hh).1
/-- A row and a block of another element type lie apart. -/
theorem OwnR.apart {α : Type} {f : α → List Value} {s : Nat} {e : TypeId} {w : World} {base : Nat} {v : Value} {l : List α} (h : OwnR f s e w base v l) {G : Nat} {cs : Array Value} {t : TypeId} {fr : Nat × Nat} (hG : w.heap[G]? = some (.cells cs t fr)) (hne : e ≠ t) : v.ownBlock ≠ some G := fun e0 => by
  rcases h.2 with ⟨rfl, _⟩ | ⟨g, cap, cur, rfl, _, hh, _⟩
  · simp [Value.ownBlock] at e0
  · simp only [Value.ownBlock, Option.some.injEq] at e0
    subst e0
    rw [hh] at hG
    simp only [Option.some.injEq, Obj.cells.injEq] at hG
    exact hne hG.2.1
/-- Rows of two element types never share a block. -/
theorem own_apart {w : World} {base base' : Nat} {e e' : TypeId} {s s' n n' : Nat} {v v' : Value} {xs xs' : List Value} (h : w.ownsRow base e s v n xs) (h' : w.ownsRow base' e' s' v' n' xs') (hne : e ≠ e') : v.ownBlock = none ∨ v.ownBlock ≠ v'.ownBlock := by
  rcases h.2 with ⟨rfl, _⟩ | ⟨g, cap, cur, rfl, _, hh, _⟩
  · exact .inl rfl
  · rcases h'.2 with ⟨rfl, _⟩ | ⟨g', cap', cur', rfl, _, hh', _⟩
    · exact .inr (by simp [Value.ownBlock])
    · refine .inr fun e0 => ?_
      simp only [Value.ownBlock, Option.some.injEq] at e0
      subst e0
      rw [hh] at hh'
      simp only [Option.some.injEq, Obj.cells.injEq] at hh'
      exact hne hh'.2.1

theorem info_parts {P : Program} {e : TypeId} {z : Value} {s b : Nat} (h : (P.info? e).map (fun i => (i.zero, i.size, i.bytes)) = some (some z, s, b)) : ∃ i, P.info? e = some i ∧ i.zero = some z ∧ i.size = s ∧ i.bytes = b := by
  obtain ⟨i, hi, h2⟩ := Option.map_eq_some_iff.1 h
  simp only [Prod.mk.injEq] at h2
  exact ⟨i, hi, h2.1, h2.2.1, h2.2.2⟩

section
variable (w : World) {ops : Array Oper} {rest : List Oper} {o : Oper} {a : Act} {K : Act → World → Prop} {Q : Exit → Act → World → Prop} {α : Type} {f : α → List Value} {s : Nat}
theorem run_app1 (hf : ∀ x, (f x).length = s) (hone : ∀ x, ∀ u ∈ f x, u.oneCell' = true) (hs0 : 0 < s) (base t ty e by_ : Nat) (z : Value) (hzs : z.cells.size = s) (hby : by_ ≤ 100)
    (ht : Try.prog.underlying t = some (.slice e)) (hinfo : (Try.prog.info? e).map (fun i => (i.zero, i.size, i.bytes)) = some (some z, s, by_))
    (v : Value) (l : List α) (hown : OwnR f s e w base v l) (g c : Nat) (x : α) (hnews : ∀ j u, (f x)[j]? = some u → w.cell? ⟨g, j, none⟩ = some u) (hlen : l.length < 4294967296) (hbase : base ≤ w.heap.size) :
    ∃ v' w', (Builtin.append_ #[t, t] ty #[v, .slice (some ⟨g, 0, none⟩) 1 c]).run Try.prog w = .ok v' w' ∧ OwnR f s e w' base v' (l ++ [x]) ∧ w.grownBy w' v.ownBlock ∧ (v'.ownBlock = v.ownBlock ∨ v'.ownBlock = some w.heap.size) ∧ v' ≠ .slice none 0 0 := by
  obtain ⟨i0, hi, hz0, hz1, hz2⟩ := info_parts hinfo
  obtain ⟨v', w', hrun, h2, h3, h4, h5⟩ := run_append_own_at (P := Try.prog) w base t ty e i0 _ s by_ ht hi hz0 hz1 hz2 hzs hs0 v l.length (l.flatMap f) hown ⟨g, 0, none⟩ 1 c (f x) (by rw [hf]; omega) (fun j u hu => by rw [Addr.add_lit, Nat.zero_add]; exact hnews j u hu) (hone x)
    (by unfold maxLen; omega) (Nat.le_trans (Nat.mul_le_mul (show l.length + 1 ≤ 4294967296 by omega) hby) (by decide)) hbase
  refine ⟨v', w', hrun, ?_, h3, h5, fun hv' => by have := (h4.1 hv').2; omega⟩
  unfold OwnR
  rw [List.flatMap_append]
  simpa using h2

theorem wp_app1 (hf : ∀ x, (f x).length = s) (hone : ∀ x, ∀ u ∈ f x, u.oneCell' = true) (hs0 : 0 < s) (by_ : Nat) (z : Value) (hzs : z.cells.size = s) (hby : by_ ≤ 100) (p q : Operand) (t e : TypeId)
    (ho : o.op = .call { callee := .builtin .append, args := #[p, q], argTypes := #[t, t] }) (ht : Try.prog.underlying t = some (.slice e)) (hinfo : (Try.prog.info? e).map (fun i => (i.zero, i.size, i.bytes)) = some (some z, s, by_))
    (base : Nat) (v : Value) (l : List α) (hp : a.eval p = v) (hown : OwnR f s e w base v l) (g c : Nat) (x : α) (hq : a.eval q = .slice (some ⟨g, 0, none⟩) 1 c) (hnews : ∀ j u, (f x)[j]? = some u → w.cell? ⟨g, j, none⟩ = some u)
    (hlen : l.length < 4294967296) (hbase : base ≤ w.heap.size)
    (h : ∀ v' w', OwnR f s e w' base v' (l ++ [x]) → w.grownBy w' v.ownBlock → (v'.ownBlock = v.ownBlock ∨ v'.ownBlock = some w.heap.size) → v' ≠ .slice none 0 0 → K (a.put o.dst v') w') : o.wp Try.prog a w K Q := by
  obtain ⟨v', w', hrun, h2, h3, h4, h5⟩ := run_app1 w hf hone hs0 base t o.type e by_ z hzs hby ht hinfo v l hown g c x hnews hlen hbase
  unfold Oper.wp execOp
  simp only [ho, resolve, invoke, builtin, Sem.run_bind, Sem.run_pure, Result.andThen_ok, List.map_toArray, List.map_cons, List.map_nil, hp, hq, hrun]
  exact h v' w' h2 h3 h4 h5

theorem wpList_app1 (hgd : o.guard = none) (hf : ∀ x, (f x).length = s) (hone : ∀ x, ∀ u ∈ f x, u.oneCell' = true) (hs0 : 0 < s) (by_ : Nat) (z : Value) (hzs : z.cells.size = s) (hby : by_ ≤ 100) (p q : Operand) (t e : TypeId)
    (ho : o.op = .call { callee := .builtin .append, args := #[p, q], argTypes := #[t, t] }) (ht : Try.prog.underlying t = some (.slice e)) (hinfo : (Try.prog.info? e).map (fun i => (i.zero, i.size, i.bytes)) = some (some z, s, by_))
    (base : Nat) (v : Value) (l : List α) (hp : a.eval p = v) (hown : OwnR f s e w base v l) (g c : Nat) (x : α) (hq : a.eval q = .slice (some ⟨g, 0, none⟩) 1 c) (hnews : ∀ j u, (f x)[j]? = some u → w.cell? ⟨g, j, none⟩ = some u)
    (hlen : l.length < 4294967296) (hbase : base ≤ w.heap.size)
    (h : ∀ v' w', OwnR f s e w' base v' (l ++ [x]) → w.grownBy w' v.ownBlock → (v'.ownBlock = v.ownBlock ∨ v'.ownBlock = some w.heap.size) → v' ≠ .slice none 0 0 → wpList Try.prog ops Q rest (a.put o.dst v') w') : wpList Try.prog ops Q (o :: rest) a w :=
  wpList_plain hgd fun _ hK => wp_app1 w hf hone hs0 by_ z hzs hby p q t e ho ht hinfo base v l hp hown g c x hq hnews hlen hbase fun v' w' h2 h3 h4 h5 => hK _ _ (h v' w' h2 h3 h4 h5)

theorem step_app1 {E : Prop} (hgd : o.guard = none) (hf : ∀ x, (f x).length = s) (hone : ∀ x, ∀ u ∈ f x, u.oneCell' = true) (hs0 : 0 < s) (by_ : Nat) (z : Value) (hzs : z.cells.size = s) (hby : by_ ≤ 100) (p q : Operand) (t e : TypeId)
    (ho : o.op = .call { callee := .builtin .append, args := #[p, q], argTypes := #[t, t] }) (ht : Try.prog.underlying t = some (.slice e)) (hinfo : (Try.prog.info? e).map (fun i => (i.zero, i.size, i.bytes)) = some (some z, s, by_))
    (base : Nat) (v : Value) (l : List α) (hp : a.eval p = v) (hown : OwnR f s e w base v l) (g c : Nat) (x : α) (hq : a.eval q = .slice (some ⟨g, 0, none⟩) 1 c) (hnews : ∀ j u, (f x)[j]? = some u → w.cell? ⟨g, j, none⟩ = some u)
    (hlen : l.length < 4294967296) (hbase : base ≤ w.heap.size)
    (h : ∀ v' w', OwnR f s e w' base v' (l ++ [x]) → w.grownBy w' v.ownBlock → (v'.ownBlock = v.ownBlock ∨ v'.ownBlock = some w.heap.size) → v' ≠ .slice none 0 0 → K (a.put o.dst v') w') :
    if Region.wanted o (yielded ops a.tmps) = true then Oper.wp Try.prog o a w K Q else E := by
  have hw : Region.wanted o (yielded ops a.tmps) = true := by simp [Region.wanted, hgd]
  rw [if_pos hw]
  exact wp_app1 w hf hone hs0 by_ z hzs hby p q t e ho ht hinfo base v l hp hown g c x hq hnews hlen hbase h
end

end Go.Proofs.Ytdajihikedjaiaa
