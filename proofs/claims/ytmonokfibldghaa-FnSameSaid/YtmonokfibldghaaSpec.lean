/- Walks of the reference's functions on pairs: Has, Sorted, Less, and of the statements' own setIs and short. Conditions: lengths as stated. -/
import Derived.Test.YtmonokfibldghaaLists
import Derived.Deep.RegionLaw
import Derived.Deep.AppendLies
namespace Go.Proofs.Ytmonokfibldghaa
open Go.RowKit Go.Maps Pl

/-! ### short -/
theorem short_yes (A : Option Addr) (n c : Nat) (A' : Option Addr) (n' c' : Nat) (w : World) (h : n ≤ 1000) (h' : n' ≤ 1000) :
    Calls Try.prog 13 #[.slice A n c, .slice A' n' c'] w fun e w' => e = .returned (.bool true) ∧ w = w' := by
  have h1 : decide ((n : Int) ≤ 1000) = true := by simp; omega
  have h2 : decide ((n' : Int) ≤ 1000) = true := by simp; omega
  go_enter Try.func13, Try.ntmps13
  go_wp2
  go_ret
  exact ⟨rfl, rfl⟩
theorem short_no (A : Option Addr) (n c : Nat) (A' : Option Addr) (n' c' : Nat) (w : World) (h : 1000 < n ∨ 1000 < n') :
    Calls Try.prog 13 #[.slice A n c, .slice A' n' c'] w fun e w' => e = .returned (.bool false) ∧ w = w' := by
  by_cases hn : 1000 < n
  · have h1 : decide ((n : Int) ≤ 1000) = false := by simp; omega
    clear h
    go_enter Try.func13, Try.ntmps13
    go_wp2
    go_ret
    exact ⟨rfl, rfl⟩
  · have h1 : decide ((n : Int) ≤ 1000) = true := by simp; omega
    have h2 : decide ((n' : Int) ≤ 1000) = false := by simp; omega
    clear h
    go_enter Try.func13, Try.ntmps13
    go_wp2
    go_ret
    exact ⟨rfl, rfl⟩

/-! ### Has -/
set_option maxRecDepth 100000 in
/-- Has: the parts of a register in a list. -/
theorem has_any (B : Nat) (A : Option Addr) (n c : Nat) (l : PL) (i : Nat) (w : World) (hr : RowP w B A l) (hB : B ≤ w.heap.size) (hln : l.length = n) (hn : n < 2147483648) (hl : Bd l) :
    Calls Try.prog 21 #[.slice A n c, .int .u32 i] w fun e w' => e = .returned (.int .u16 (hasm l i)) ∧ Below w.heap.size w w' := by
  go_enter Try.func21, Try.ntmps21
  go_wp2
  go_loopw [5, 10] (fun m i' wr => ∃ k : Nat, k ≤ n ∧ i' = .int .i64 k ∧ m = .int .u16 (hasm (l.take k) i) ∧ Below w.heap.size w wr) (fun _ i _ => n - (intOf i).toNat)
  case atStart => exact ⟨0, Nat.zero_le _, rfl, rfl, Below.refl _ _⟩
  case round =>
    obtain ⟨k, hk, rfl, rfl, hnx⟩ := hrel
    by_cases hlt : k < n
    · obtain ⟨p, hp⟩ : ∃ p, l[k]? = some p := ⟨l[k]'(by omega), List.getElem?_eq_getElem (by omega)⟩
      have hpb := hl p (List.mem_of_getElem? hp)
      obtain ⟨blk, off, rfl, hblk, hcs⟩ := hr (by omega)
      have hc := hcs k p hp
      have hc0 : wr.cell? ⟨blk, off + k * 2, none⟩ = some (.int .u32 p.1) := (hnx.cell (p := ⟨blk, off + k * 2, none⟩) (by simp; omega)).trans hc.1
      have hc1 : wr.cell? ⟨blk, off + k * 2 + 1, none⟩ = some (.int .u16 p.2) := (hnx.cell (p := ⟨blk, off + k * 2 + 1, none⟩) (by simp; omega)).trans hc.2
      have HS := Lib.hid ((congrArg (fun x => hasm x i) (take_snoc hp)).trans (hasm_snoc (l.take k) p i))
      have hml : hasm (l.take k) i < 65536 := hasm_lt (bd_take hl k) i
      have hor := u16_or_nat (hasm (l.take k) i) p.2 hml hpb.2
      have hb := (hnx.alloc hnx.size (.cells #[.int .u32 p.1, .int .u16 p.2] 46))
      clear hcs hc hr hp
      obtain ⟨p1, p2⟩ := p
      obtain ⟨g, hg⟩ : ∃ g, g = hasm (l.take k) i := ⟨_, rfl⟩
      rw [← hg] at hor HS ⊢
      clear hg hml
      by_cases he : p1 = i
      · have ht : ((p1 : Int) == (i : Int)) = true := by rw [he]; simp
        have HE := Lib.hid he
        clear he
        go_wp2
        go_roundw
        case rel => exact ⟨k + 1, by omega, by go_num, by rw [HS.out, if_pos HE.out], hb⟩
        case measure => simp [intOf]; omega
      · have ht : ((p1 : Int) == (i : Int)) = false := by simp; omega
        have HE := Lib.hid he
        clear he
        go_wp2
        go_roundw
        case rel => exact ⟨k + 1, by omega, by go_num, by rw [HS.out, if_neg HE.out], hb⟩
        case measure => simp [intOf]; omega
    · go_wp2
      obtain rfl : k = n := by omega
      go_ret
      have hfin : hasm l i = hasm (l.take k) i := by rw [List.take_of_length_le (by omega)]
      exact ⟨by rw [hfin]; rfl, hnx⟩

/-! ### append of a list of pairs -/
theorem run_appP (w : World) (base t ty e : Nat) (ht : Try.prog.underlying t = some (.slice e)) (hinfo : (Try.prog.info? e).map (fun i => (i.zero, i.size, i.bytes)) = some (some (.agg #[.int .u32 0, .int .u16 0]), 2, 8))
    (v : Value) (l : PL) (hown : OwnP e w base v l) (B : Nat) (A : Option Addr) (r : PL) (m c : Nat) (hm : m = r.length) (hr : RowP w B A r) (hnone : A = none → c = 0) (hlen : l.length < 4294967296) (hlen' : r.length < 4294967296) (hbase : base ≤ w.heap.size) :
    ∃ v' w', (Builtin.append_ #[t, t] ty #[v, .slice A m c]).run Try.prog w = .ok v' w' ∧ OwnP e w' base v' (l ++ r) ∧ w.grownBy w' v.ownBlock ∧ (v'.ownBlock = v.ownBlock ∨ v'.ownBlock = some w.heap.size) ∧ (v ≠ .slice none 0 0 → v' ≠ .slice none 0 0) := by
  obtain ⟨i0, hi, hz0, hz1, hz2⟩ := info_parts hinfo
  subst hm
  cases A with
  | none =>
    have h0 : r = [] := by
      cases r with
      | nil => rfl
      | cons x xs => obtain ⟨_, _, h, _⟩ := hr (by simp); cases h
    subst h0
    have hc := hnone rfl
    subst hc
    exact ⟨v, w, run_append_owned_none (P := Try.prog) w base t ty e i0 2 ht hi v l.length (cellsP l) hown, by simpa using hown, World.grownBy.refl w _, .inl rfl, fun h => h⟩
  | some ad =>
    have hcells : ∀ j u, (cellsP r)[j]? = some u → w.cell? (ad.add j) = some u := fun j u hu => by
      have hj : j < r.length * 2 := by rw [← length_cellsP]; exact (List.getElem?_eq_some_iff.1 hu).1
      obtain ⟨b, off, e1, _, hc⟩ := hr (by omega)
      cases e1
      obtain ⟨p, hp⟩ : ∃ p, r[j / 2]? = some p := ⟨r[j / 2]'(by omega), List.getElem?_eq_getElem (by omega)⟩
      have h1 := hc _ p hp
      have h2 := cellsP_at r hp
      rcases Nat.mod_two_eq_zero_or_one j with h | h
      · have ej : j / 2 * 2 = j := by omega
        rw [ej] at h1 h2
        rw [h2.1] at hu; cases hu
        simpa [Addr.add_lit] using h1.1
      · have ej : j / 2 * 2 + 1 = j := by omega
        rw [Nat.add_assoc, ej] at h1
        rw [ej] at h2
        rw [h2.2] at hu; cases hu
        simpa [Addr.add_lit] using h1.2
    obtain ⟨v', w', hrun, h2, h3, h4, h5⟩ := run_append_own_at (P := Try.prog) w base t ty e i0 _ 2 8 ht hi hz0 hz1 hz2 rfl (by decide) v l.length (cellsP l) hown ad r.length c (cellsP r) (length_cellsP r) hcells (oneCell_cellsP r) (by unfold maxLen; omega) (by omega) hbase
    refine ⟨v', w', hrun, ?_, h3, h5, fun hv hv' => hv (h4.1 hv').1⟩
    unfold OwnP
    rw [cellsP_append]
    simpa using h2

section
variable (w : World) {ops : Array Oper} {rest : List Oper} {o : Oper} {a : Act} {K : Act → World → Prop} {Q : Exit → Act → World → Prop}
theorem wp_appP (s x : Operand) (t e : TypeId) (ho : o.op = .call { callee := .builtin .append, args := #[s, x], argTypes := #[t, t] }) (ht : Try.prog.underlying t = some (.slice e))
    (hinfo : (Try.prog.info? e).map (fun i => (i.zero, i.size, i.bytes)) = some (some (.agg #[.int .u32 0, .int .u16 0]), 2, 8))
    (base : Nat) (v : Value) (l : PL) (hs : a.eval s = v) (hown : OwnP e w base v l) (B : Nat) (A : Option Addr) (r : PL) (m c : Nat) (hx : a.eval x = .slice A m c) (hm : m = r.length) (hr : RowP w B A r) (hnone : A = none → c = 0)
    (hlen : l.length < 4294967296) (hlen' : r.length < 4294967296) (hbase : base ≤ w.heap.size)
    (h : ∀ v' w', OwnP e w' base v' (l ++ r) → w.grownBy w' v.ownBlock → (v'.ownBlock = v.ownBlock ∨ v'.ownBlock = some w.heap.size) → (v ≠ .slice none 0 0 → v' ≠ .slice none 0 0) → K (a.put o.dst v') w') : o.wp Try.prog a w K Q := by
  obtain ⟨v', w', hrun, h2, h3, h4, h5⟩ := run_appP w base t o.type e ht hinfo v l hown B A r m c hm hr hnone hlen hlen' hbase
  unfold Oper.wp execOp
  simp only [ho, resolve, invoke, builtin, Sem.run_bind, Sem.run_pure, Result.andThen_ok, List.map_toArray, List.map_cons, List.map_nil, hs, hx, hrun]
  exact h v' w' h2 h3 h4 h5

theorem wpList_appP (hgd : o.guard = none) (s x : Operand) (t e : TypeId) (ho : o.op = .call { callee := .builtin .append, args := #[s, x], argTypes := #[t, t] }) (ht : Try.prog.underlying t = some (.slice e))
    (hinfo : (Try.prog.info? e).map (fun i => (i.zero, i.size, i.bytes)) = some (some (.agg #[.int .u32 0, .int .u16 0]), 2, 8))
    (base : Nat) (v : Value) (l : PL) (hs : a.eval s = v) (hown : OwnP e w base v l) (B : Nat) (A : Option Addr) (r : PL) (m c : Nat) (hx : a.eval x = .slice A m c) (hm : m = r.length) (hr : RowP w B A r) (hnone : A = none → c = 0)
    (hlen : l.length < 4294967296) (hlen' : r.length < 4294967296) (hbase : base ≤ w.heap.size)
    (h : ∀ v' w', OwnP e w' base v' (l ++ r) → w.grownBy w' v.ownBlock → (v'.ownBlock = v.ownBlock ∨ v'.ownBlock = some w.heap.size) → (v ≠ .slice none 0 0 → v' ≠ .slice none 0 0) → wpList Try.prog ops Q rest (a.put o.dst v') w') : wpList Try.prog ops Q (o :: rest) a w :=
  wpList_plain hgd fun _ hK => wp_appP w s x t e ho ht hinfo base v l hs hown B A r m c hx hm hr hnone hlen hlen' hbase fun v' w' h2 h3 h4 h5 => hK _ _ (h v' w' h2 h3 h4 h5)

theorem step_appP {E : Prop} (hgd : o.guard = none) (s x : Operand) (t e : TypeId) (ho : o.op = .call { callee := .builtin .append, args := #[s, x], argTypes := #[t, t] }) (ht : Try.prog.underlying t = some (.slice e))
    (hinfo : (Try.prog.info? e).map (fun i => (i.zero, i.size, i.bytes)) = some (some (.agg #[.int .u32 0, .int .u16 0]), 2, 8))
    (base : Nat) (v : Value) (l : PL) (hs : a.eval s = v) (hown : OwnP e w base v l) (B : Nat) (A : Option Addr) (r : PL) (m c : Nat) (hx : a.eval x = .slice A m c) (hm : m = r.length) (hr : RowP w B A r) (hnone : A = none → c = 0)
    (hlen : l.length < 4294967296) (hlen' : r.length < 4294967296) (hbase : base ≤ w.heap.size)
    (h : ∀ v' w', OwnP e w' base v' (l ++ r) → w.grownBy w' v.ownBlock → (v'.ownBlock = v.ownBlock ∨ v'.ownBlock = some w.heap.size) → (v ≠ .slice none 0 0 → v' ≠ .slice none 0 0) → K (a.put o.dst v') w') :
    if Region.wanted o (yielded ops a.tmps) = true then Oper.wp Try.prog o a w K Q else E := by
  have hw : Region.wanted o (yielded ops a.tmps) = true := by simp [Region.wanted, hgd]
  rw [if_pos hw]
  exact wp_appP w s x t e ho ht hinfo base v l hs hown B A r m c hx hm hr hnone hlen hlen' hbase h
end

section
variable (w : World) {ops : Array Oper} {o : Oper} {a : Act} {K : Act → World → Prop} {Q : Exit → Act → World → Prop}
/-- .. at a guarded operation whose guard stands open. -/
theorem step_appG {E : Prop} (hw : Region.wanted o (yielded ops a.tmps) = true) (s x : Operand) (t e : TypeId) (ho : o.op = .call { callee := .builtin .append, args := #[s, x], argTypes := #[t, t] }) (ht : Try.prog.underlying t = some (.slice e))
    (hinfo : (Try.prog.info? e).map (fun i => (i.zero, i.size, i.bytes)) = some (some (.agg #[.int .u32 0, .int .u16 0]), 2, 8))
    (base : Nat) (v : Value) (l : PL) (hs : a.eval s = v) (hown : OwnP e w base v l) (B : Nat) (A : Option Addr) (r : PL) (m c : Nat) (hx : a.eval x = .slice A m c) (hm : m = r.length) (hr : RowP w B A r) (hnone : A = none → c = 0)
    (hlen : l.length < 4294967296) (hlen' : r.length < 4294967296) (hbase : base ≤ w.heap.size)
    (h : ∀ v' w', OwnP e w' base v' (l ++ r) → w.grownBy w' v.ownBlock → (v'.ownBlock = v.ownBlock ∨ v'.ownBlock = some w.heap.size) → (v ≠ .slice none 0 0 → v' ≠ .slice none 0 0) → K (a.put o.dst v') w') :
    if Region.wanted o (yielded ops a.tmps) = true then Oper.wp Try.prog o a w K Q else E := by
  rw [if_pos hw]
  exact wp_appP w s x t e ho ht hinfo base v l hs hown B A r m c hx hm hr hnone hlen hlen' hbase h
end

/-! ### cuts of rows -/
/-- The first k pairs. -/
theorem OwnP.front {e : TypeId} {w : World} {base : Nat} {A : Option Addr} {n c : Nat} {l : PL} (h : OwnP e w base (.slice A n c) l) {k : Nat} (hk : k ≤ l.length) : OwnP e w base (.slice A k c) (l.take k) := by
  obtain ⟨h1, ⟨h2, h3⟩ | ⟨g, cap, cur, h2, hb, hh, hn, hm, hs, ht⟩⟩ := h
  · simp only [Value.slice.injEq] at h2
    obtain ⟨rfl, rfl, rfl⟩ := h2
    have : k = 0 := by omega
    subst this
    exact ⟨by simp [cellsP], .inl ⟨rfl, by simp⟩⟩
  · simp only [Value.slice.injEq] at h2
    obtain ⟨rfl, rfl, rfl⟩ := h2
    have hl : (l.take k).length = k := by rw [List.length_take]; omega
    refine ⟨length_cellsP _, .inr ⟨g, c, cur, by rw [hl], hb, hh, by omega, hm, hs, ?_⟩⟩
    rw [hl]
    have hc : cellsP l = cellsP (l.take k) ++ cellsP (l.drop k) := by rw [← cellsP_append, List.take_append_drop]
    have h5 : (cellsP l).take (k * 2) = cellsP (l.take k) := by
      rw [hc, List.take_append_of_le_length (by rw [length_cellsP, hl]; exact Nat.le_refl _), List.take_of_length_le (by rw [length_cellsP, hl]; exact Nat.le_refl _)]
    rw [← h5, ← ht, List.take_take, Nat.min_eq_left (by omega)]

theorem OwnP.form' {e : TypeId} {w : World} {base : Nat} {v : Value} {l : PL} (h : OwnP e w base v l) (hv : v ≠ .slice none 0 0) : ∃ g c, v = .slice (some ⟨g, 0, none⟩) l.length c ∧ l.length ≤ c ∧ base ≤ g ∧ g < w.heap.size ∧ (∃ cur, w.heap[g]? = some (.cells cur e (0, 0))) ∧ ∀ k p, l[k]? = some p → w.cell? ⟨g, k * 2, none⟩ = some (.int .u32 p.1) ∧ w.cell? ⟨g, k * 2 + 1, none⟩ = some (.int .u16 p.2) := by
  obtain ⟨A, c0, e0, hr⟩ := h.form
  obtain ⟨_, ⟨h2, _⟩ | ⟨g, cap, cur, h2, hb, hh, hn, _⟩⟩ := h
  · exact absurd h2 hv
  · rw [e0] at h2
    simp only [Value.slice.injEq] at h2
    obtain ⟨rfl, _, rfl⟩ := h2
    refine ⟨g, c0, e0, hn, hb, OwnP.form.block_lt_of_heap hh, ⟨cur, hh⟩, fun k p hp => ?_⟩
    have hk : k < l.length := (List.getElem?_eq_some_iff.1 hp).1
    obtain ⟨b, off, e1, _, hc⟩ := hr (by omega)
    cases e1
    simpa using hc k p hp

/-- What is left behind the first k. -/
theorem RowP.back {w : World} {B : Nat} {b off : Nat} {l : PL} (h : RowP w B (some ⟨b, off, none⟩) l) (k : Nat) : RowP w B (some ⟨b, off + k * 2, none⟩) (l.drop k) := fun hn => by
  rw [List.length_drop] at hn
  obtain ⟨b', off', e, hb, hc⟩ := h (by omega)
  cases e
  refine ⟨b, off + k * 2, rfl, hb, fun j p hp => ?_⟩
  rw [List.getElem?_drop] at hp
  have := hc _ p hp
  rw [show off + k * 2 + j * 2 = off + (k + j) * 2 by omega]
  exact this

theorem asc_splice {S : PL} (h : Asc S) (k : Nat) (p : Nat × Nat) (h1 : ∀ q ∈ S.take k, q.1 < p.1) (h2 : ∀ q ∈ S.drop k, p.1 < q.1) : Asc (S.take k ++ (p :: S.drop k)) := by
  have h' : Asc (S.take k ++ S.drop k) := by rw [List.take_append_drop]; exact h
  obtain ⟨ha, hb, hab⟩ := List.pairwise_append.1 h'
  refine List.pairwise_append.2 ⟨ha, List.pairwise_cons.2 ⟨h2, hb⟩, fun x hx y hy => ?_⟩
  rcases List.mem_cons.1 hy with rfl | hy
  · exact h1 x hx
  · exact hab x hx y hy

/-! ### what a loop over a map has laid into a list -/
def Seen (M S : PL) (left : Lit → Bool) : Prop := ∀ q : Nat × Nat, q ∈ S ↔ q ∈ M ∧ q.2 ≠ 0 ∧ left (.int .u32 (q.1 : Nat)) = false
theorem Seen.start (M : PL) : Seen M [] (Maps.has (DL (H := Unit) M)) := fun q => by
  constructor
  · intro h; cases h
  · rintro ⟨h1, _, h3⟩; rw [has_DL, has_of_mem (v := q.2) h1] at h3; cases h3
theorem Seen.skip {M S : PL} {left : Lit → Bool} {i : Nat} (hM : Asc M) (h : Seen M S left) (h0 : getL M i = 0) : Seen M S (fun z => left z && !z.sameKey (.int .u32 i)) := fun q => by
  rw [h q]
  by_cases e : q.1 = i
  · constructor
    · rintro ⟨h1, h2, _⟩
      have := get_of_mem hM (i := q.1) (v := q.2) h1
      rw [e, h0] at this; exact absurd this.symm h2
    · rintro ⟨h1, h2, _⟩
      have := get_of_mem hM (i := q.1) (v := q.2) h1
      rw [e, h0] at this; exact absurd this.symm h2
  · simp only [sameKey_u32]; simp [e]
theorem Seen.more {M S T : PL} {left : Lit → Bool} {i : Nat} (hM : Asc M) (h : Seen M S left) (hi : hasL M i = true) (h0 : getL M i ≠ 0) (hT : ∀ q, q ∈ T ↔ q = (i, getL M i) ∨ q ∈ S) : Seen M T (fun z => left z && !z.sameKey (.int .u32 i)) := fun q => by
  rw [hT q, h q]
  simp only [sameKey_u32]
  by_cases e : q.1 = i
  · constructor
    · rintro (rfl | ⟨h1, h2, h3⟩)
      · exact ⟨mem_of_has hi, h0, by simp⟩
      · exact ⟨h1, h2, by simp [e]⟩
    · rintro ⟨h1, _, _⟩
      have := get_of_mem hM (i := q.1) (v := q.2) h1
      rw [e] at this
      exact .inl (Prod.ext e this.symm)
  · have hne : q ≠ (i, getL M i) := fun h => e (by rw [h])
    simp [e, hne]
theorem Seen.fresh {M S : PL} {left : Lit → Bool} {i : Nat} (h : Seen M S left) (hli : left (.int .u32 (i : Nat)) = true) : ∀ q ∈ S, q.1 ≠ i := fun q hq e => by
  have := ((h q).1 hq).2.2
  rw [e, hli] at this; cases this
theorem Seen.done {M S : PL} {left : Lit → Bool} (hM : Asc M) (hS : Asc S) (h : Seen M S left) (hl : ∀ i : Nat, left (.int .u32 i) = false) : S = M.filter (fun p => p.2 != 0) := by
  refine asc_ext hS (List.Pairwise.filter _ hM) fun q => ?_
  rw [h q, List.mem_filter, hl]
  simp
theorem Seen.length_le {M S : PL} {left : Lit → Bool} (hM : Asc M) (hS : Asc S) (h : Seen M S left) : S.length ≤ M.length := (sublist_of M hS hM fun q hq => ((h q).1 hq).1).length_le

/-- A row of cells is no map and no iterator. -/
theorem own_ne_map {e k : TypeId} {w : World} {base : Nat} {v : Value} {l : PL} {b n : Nat} {L : PL} (h : OwnP e w base v l) (hm : IsM k w b n L) : some b ≠ v.ownBlock := by
  obtain ⟨es, cl, hb, _⟩ := hm
  obtain ⟨_, ⟨rfl, _⟩ | ⟨g, cap, cur, rfl, _, hh, _⟩⟩ := h
  · simp [Value.ownBlock]
  · intro e0
    simp only [Value.ownBlock, Option.some.injEq] at e0
    subst e0
    rw [hh] at hb; cases hb
theorem own_ne_iter {e k : TypeId} {w : World} {base : Nat} {v : Value} {l : PL} {b r n cnt : Nat} {L : PL} {left : Lit → Bool} (h : OwnP e w base v l) (hm : IsR k w b r n L left cnt) : some r ≠ v.ownBlock := by
  obtain ⟨es, cl, _, _, _, _, _, _, _, hb, _⟩ := hm
  obtain ⟨_, ⟨rfl, _⟩ | ⟨g, cap, cur, rfl, _, hh, _⟩⟩ := h
  · simp [Value.ownBlock]
  · intro e0
    simp only [Value.ownBlock, Option.some.injEq] at e0
    subst e0
    rw [hh] at hb; cases hb

theorem drop_high {S : PL} {i j : Nat} {p : Nat × Nat} (hS : Asc S) (hp : S[j]? = some p) (hlt : ¬ p.1 < i) : ∀ q ∈ S.drop j, ¬ q.1 < i := fun q hq => by
  obtain ⟨k, hk⟩ := List.getElem?_of_mem hq
  rw [List.getElem?_drop] at hk
  rcases Nat.eq_zero_or_pos k with h | h
  · subst h; rw [Nat.add_zero, hp] at hk; cases hk; exact hlt
  · obtain ⟨h1, e1⟩ := List.getElem?_eq_some_iff.1 hp
    obtain ⟨h2, e2⟩ := List.getElem?_eq_some_iff.1 hk
    have := List.pairwise_iff_getElem.1 hS j (j + k) h1 h2 (by omega)
    rw [e1, e2] at this
    omega
theorem row_back {w : World} {g B : Nat} {S : PL} (h : ∀ k p, S[k]? = some p → w.cell? ⟨g, k * 2, none⟩ = some (.int .u32 p.1) ∧ w.cell? ⟨g, k * 2 + 1, none⟩ = some (.int .u16 p.2)) (hg : g < B) (j : Nat) : RowP w B (some ⟨g, j * 2, none⟩) (S.drop j) := fun _ => by
  refine ⟨g, j * 2, rfl, hg, fun k p hp => ?_⟩
  rw [List.getElem?_drop] at hp
  have := h _ p hp
  rw [show j * 2 + k * 2 = (j + k) * 2 by omega]
  exact this
theorem RowP.alloc {w : World} {B : Nat} {A : Option Addr} {l : PL} (h : RowP w B A l) (o : Obj) (hB : B ≤ w.heap.size) : RowP (w.alloc o) B A l := h.keep fun p hp => World.cell?_alloc_lt w o p (by omega)

theorem OwnP.row {e : TypeId} {w : World} {base : Nat} {v : Value} {l : PL} (h : OwnP e w base v l) (hv : v ≠ .slice none 0 0) : ∃ g c, v = .slice (some ⟨g, 0, none⟩) l.length c ∧ RowP w w.heap.size (some ⟨g, 0, none⟩) l := by
  obtain ⟨g, c, e, _, _, hg, _, hc⟩ := h.form' hv
  exact ⟨g, c, e, by simpa using row_back hc hg 0⟩

theorem own_one (w : World) (base : Nat) (e : TypeId) (i x : Nat) (hb : base ≤ w.heap.size) : OwnP e (w.alloc (.cells #[.int .u32 i, .int .u16 x] e)) base (.slice (some ⟨w.heap.size, 0, none⟩) 1 1) [(i, x)] :=
  World.ownsRow_lit (size := 2) w #[.int .u32 i, .int .u16 x] 1 hb (by decide) rfl

/-- What a pair laid into an ascending list at its place leaves: for the walk of Sorted. -/
theorem spliced {w w1 w2 w3 : World} {base i x j n cnt g cc bm r : Nat} {M S : PL} {left : Lit → Bool} {v2 : Value} {v1l : PL} (hrg1 : IsR 38 w1 bm r n M (fun z => left z && !z.sameKey (.int .u32 i)) cnt)
    (hbase : base ≤ w1.heap.size) (hown1 : OwnP 46 w1 base (.slice (some ⟨g, 0, none⟩) S.length cc) S) (hM : Asc M) (hS : Asc S) (hseen : Seen M S left) (hi : hasL M i = true) (hx : getL M i = x) (hx0 : x ≠ 0)
    (hli : left (.int .u32 i) = true) (hlow : ∀ p ∈ S.take j, p.1 < i) (hhigh : ∀ p ∈ S.drop j, ¬ p.1 < i) (hbel : Below base w w1)
    (g1 : (w1.alloc (.cells #[.int .u32 i, .int .u16 x] 46)).grownBy w2 (some w1.heap.size)) (h2 : OwnP 46 w3 base v2 (S.take j ++ v1l)) (hv1 : v1l = (i, x) :: S.drop j) (g2 : w2.grownBy w3 (some g)) (hgb : base ≤ g) :
    IsR 38 w3 bm r n M (fun z => left z && !z.sameKey (.int .u32 i)) cnt ∧ OwnP 46 w3 base v2 (S.take j ++ (i, x) :: S.drop j) ∧ Asc (S.take j ++ (i, x) :: S.drop j) ∧ Seen M (S.take j ++ (i, x) :: S.drop j) (fun z => left z && !z.sameKey (.int .u32 i)) ∧ Below base w w3 := by
  subst hv1
  have hlt : bm < w1.heap.size := hrg1.owns.lt
  have hlr : r < w1.heap.size := World.ranges.lt hrg1
  have n1 : bm ≠ g := fun e => own_ne_map hown1 hrg1.owns (by simp [Value.ownBlock, e])
  have n2 : r ≠ g := fun e => own_ne_iter hown1 hrg1 (by simp [Value.ownBlock, e])
  have hsz := g1.size
  simp only [World.size_alloc] at hsz
  refine ⟨((hrg1.alloc _).kept g1 (by simp; omega) (by simp; omega)).kept g2 (by simpa using n1) (by simpa using n2), h2, ?_, ?_, ?_⟩
  · refine asc_splice hS j (i, x) hlow fun q hq => ?_
    have h1 := hhigh q hq
    have h3 := hseen.fresh hli q (List.mem_of_mem_drop hq)
    show i < q.1
    omega
  · refine hseen.more hM hi (by rw [hx]; exact hx0) fun q => ?_
    rw [hx, List.mem_append, List.mem_cons]
    constructor
    · rintro (h | h | h)
      · exact .inr (List.mem_of_mem_take h)
      · exact .inl h
      · exact .inr (List.mem_of_mem_drop h)
    · rintro (h | h)
      · exact .inr (.inl h)
      · rw [← List.take_append_drop j S, List.mem_append] at h
        rcases h with h | h
        · exact .inl h
        · exact .inr (.inr h)
  · exact ((hbel.alloc hbase _).grown g1 (by simp; omega) (fun k hk => by cases hk; exact hbase)).grown g2 (by omega) (fun k hk => by cases hk; exact hgb)

end Go.Proofs.Ytmonokfibldghaa
