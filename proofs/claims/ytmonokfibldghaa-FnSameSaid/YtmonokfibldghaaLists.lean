/- Lists of pairs in memory, and the walks of the statements' own makers of lists. Conditions: lengths as stated. -/
import Derived.Test.YtmonokfibldghaaMaps
import Derived.Maps.AppendAt
namespace Go.Proofs.Ytmonokfibldghaa
open Go.RowKit Go.Maps Pl

/-- The cells of a list of pairs. -/
def cellsP (l : PL) : List Value := l.flatMap fun p => [.int .u32 p.1, .int .u16 p.2]
theorem cellsP_nil : cellsP [] = [] := rfl
theorem cellsP_append (a b : PL) : cellsP (a ++ b) = cellsP a ++ cellsP b := by simp [cellsP]
theorem cellsP_one (p : Nat × Nat) : cellsP [p] = [.int .u32 p.1, .int .u16 p.2] := by simp [cellsP]
theorem length_cellsP (l : PL) : (cellsP l).length = l.length * 2 := by
  induction l with
  | nil => rfl
  | cons x r ih => rw [← List.singleton_append, cellsP_append, cellsP_one]; simp [ih]; omega
theorem cellsP_at (l : PL) : ∀ {k : Nat} {p : Nat × Nat}, l[k]? = some p → (cellsP l)[k * 2]? = some (.int .u32 p.1) ∧ (cellsP l)[k * 2 + 1]? = some (.int .u16 p.2) := by
  induction l with
  | nil => intro k p h; simp at h
  | cons x r ih =>
    intro k p h
    rw [← List.singleton_append, cellsP_append, cellsP_one]
    cases k with
    | zero => simp at h; subst h; simp
    | succ k =>
      have h' : r[k]? = some p := by simpa using h
      have := ih h'
      rw [show (k + 1) * 2 = k * 2 + 1 + 1 by omega]
      simpa using this
theorem oneCell_cellsP (l : PL) : ∀ u ∈ cellsP l, u.oneCell' = true := by
  intro u hu
  obtain ⟨p, _, hp⟩ := List.mem_flatMap.1 hu
  simp at hp
  rcases hp with rfl | rfl <;> rfl

/-- A slice of the call's own that holds the pairs l. -/
def OwnP (e : TypeId) (w : World) (base : Nat) (v : Value) (l : PL) : Prop := w.ownsRow base e 2 v l.length (cellsP l)

theorem OwnP.form {e : TypeId} {w : World} {base : Nat} {v : Value} {l : PL} (h : OwnP e w base v l) : ∃ A c, v = .slice A l.length c ∧ RowP w w.heap.size A l := by
  obtain ⟨h1, ⟨rfl, h2⟩ | ⟨g, cap, cur, rfl, hb, hh, hn, hm, hs, ht⟩⟩ := h
  · exact ⟨none, 0, by rw [h2], fun hp => by omega⟩
  · refine ⟨_, cap, rfl, fun _ => ⟨g, 0, rfl, block_lt_of_heap hh, fun k p hp => ?_⟩⟩
    have hlt : k < l.length := (List.getElem?_eq_some_iff.1 hp).1
    have := cellsP_at l hp
    rw [← ht] at this
    rw [List.getElem?_take, List.getElem?_take, if_pos (by omega), if_pos (by omega)] at this
    rw [cell_of_row w g _ cur e (0, 0) hh, cell_of_row w g _ cur e (0, 0) hh]
    simpa using this
where
  block_lt_of_heap : ∀ {w : World} {g : Nat} {o : Obj}, w.heap[g]? = some o → g < w.heap.size := fun {w g o} h => (Array.getElem?_eq_some_iff.1 h).1
theorem OwnP.kept {e : TypeId} {w w' : World} {base : Nat} {v : Value} {l : PL} {row : Option Nat} (h : OwnP e w base v l) (hg : w.grownBy w' row) (hne : v.ownBlock = none ∨ v.ownBlock ≠ row) : OwnP e w' base v l := World.ownsRow.kept h hg hne
theorem OwnP.alloc {e : TypeId} {w : World} {base : Nat} {v : Value} {l : PL} (h : OwnP e w base v l) (o : Obj) : OwnP e (w.alloc o) base v l := World.ownsRow.alloc h o
theorem OwnP.below {e : TypeId} {w w' : World} {base : Nat} {v : Value} {l : PL} (h : OwnP e w base v l) (hb : Below w.heap.size w w') : OwnP e w' base v l :=
  h.kept (row := none) ⟨hb.os, hb.tape, hb.output, hb.size, fun i hi _ => hb.block i hi⟩ (by cases v.ownBlock <;> simp)
theorem OwnP.nil (e : TypeId) (w : World) (base : Nat) : OwnP e w base (.slice none 0 0) [] := World.ownsRow_nil w base e 2

/-- Rows of two element types never share a block. -/
theorem own_apart {w : World} {base base' : Nat} {e e' : TypeId} {s s' n n' : Nat} {v v' : Value} {xs xs' : List Value} (h : w.ownsRow base e s v n xs) (h' : w.ownsRow base' e' s' v' n' xs') (hne : e ≠ e') : v.ownBlock = none ∨ v.ownBlock ≠ v'.ownBlock := by
  rcases h.2 with ⟨rfl, _⟩ | ⟨g, cap, cur, rfl, _, hh, _⟩
  · exact .inl rfl
  · rcases h'.2 with ⟨rfl, _⟩ | ⟨g', cap', cur', rfl, _, hh', _⟩
    · exact .inr (by simp [Value.ownBlock])
    · refine .inr fun e0 => ?_
      simp only [Value.ownBlock, Option.some.injEq] at e0
      subst e0
      rw [hh] at hh'
      simp only [Option.some.injEq, Obj.cells.injEq] at hh'
      exact hne hh'.2.1

theorem info43 : (Try.prog.info? 43).map (fun i => (i.zero, i.size, i.bytes)) = some (some (.agg #[.int .u32 0, .int .u16 0]), 2, 8) := by kernel_rfl
theorem info46 : (Try.prog.info? 46).map (fun i => (i.zero, i.size, i.bytes)) = some (some (.agg #[.int .u32 0, .int .u16 0]), 2, 8) := by kernel_rfl
theorem info38 : (Try.prog.info? 38).map (fun i => (i.zero, i.size, i.bytes)) = some (some (.int .u32 0), 1, 4) := by kernel_rfl

section
variable (w : World) {ops : Array Oper} {rest : List Oper} {o : Oper} {a : Act} {Q : Exit → Act → World → Prop}
/-- One pair appended to a slice of the call's own. -/
theorem wpList_app (hgd : o.guard = none) (s x : Operand) (t e : TypeId) (ho : o.op = .call { callee := .builtin .append, args := #[s, x], argTypes := #[t, t] }) (ht : Try.prog.underlying t = some (.slice e))
    (hinfo : (Try.prog.info? e).map (fun i => (i.zero, i.size, i.bytes)) = some (some (.agg #[.int .u32 0, .int .u16 0]), 2, 8))
    (base : Nat) (v : Value) (l : PL) (hs : a.eval s = v) (hown : OwnP e w base v l) (g c : Nat) (p : Nat × Nat) (hx : a.eval x = .slice (some ⟨g, 0, none⟩) 1 c)
    (h0 : w.cell? ⟨g, 0, none⟩ = some (.int .u32 p.1)) (h1 : w.cell? ⟨g, 1, none⟩ = some (.int .u16 p.2)) (hlen : l.length < 4294967296) (hbase : base ≤ w.heap.size)
    (h : ∀ v' w', OwnP e w' base v' (l ++ [p]) → w.grownBy w' v.ownBlock → (v'.ownBlock = v.ownBlock ∨ v'.ownBlock = some w.heap.size) → v' ≠ .slice none 0 0 → wpList Try.prog ops Q rest (a.put o.dst v') w') : wpList Try.prog ops Q (o :: rest) a w := by
  obtain ⟨i0, hi, hz0, hz1, hz2⟩ := info_parts hinfo
  refine wpList_append_own_at w hgd s x t ho base e i0 _ 2 8 ht hi hz0 hz1 hz2 rfl (by decide) v l.length (cellsP l) hs hown ⟨g, 0, none⟩ 1 c (cellsP [p]) hx (by simp [length_cellsP]) (fun j u hu => ?_) (oneCell_cellsP _)
    (by unfold maxLen; omega) (by omega) hbase fun v' w' h2 h3 h5 h4 => h v' w' ?_ h3 h4 fun e => by have := (h5.1 e).2; omega
  · rw [cellsP_one] at hu
    match j, hu with
    | 0, hu => simp at hu; subst hu; exact h0
    | 1, hu => simp at hu; subst hu; exact h1
  · unfold OwnP
    rw [cellsP_append]
    simpa using h2
end

/-! ### nonzero -/
/-- The numbers as 'nonzero' answers them. -/
def nzN (n : Nat) : Nat := if n &&& 127 = 0 then n ||| 1 else n

set_option maxRecDepth 100000 in
theorem nonzero_any (A : Option Addr) (n c : Nat) (zs : List Nat) (w : World) (hln : zs.length = n) (hn : n < 2147483648) (hz : ∀ z ∈ zs, z < 4294967296)
    (hr : 0 < n → ∃ b off, A = some ⟨b, off, none⟩ ∧ b < w.heap.size ∧ ∀ k z, zs[k]? = some z → w.cell? ⟨b, off + k, none⟩ = some (.int .u32 (z : Nat))) :
    Calls Try.prog 15 #[.slice A n c] w fun e w' => ∃ v, e = .returned v ∧ v ≠ .slice none 0 0 ∧ w'.ownsRow w.heap.size 38 1 v n ((zs.map nzN).map fun z : Nat => .int .u32 (z : Int)) ∧ Below w.heap.size w w' := by
  obtain ⟨i0, hi, hz0, hz1, hz2⟩ := info_parts info38
  go_enter Try.func15, Try.ntmps15
  go_wp2
  go_loopw [3, 9] (fun v i wr => ∃ k : Nat, k ≤ n ∧ i = .int .i64 k ∧ v ≠ .slice none 0 0 ∧ wr.ownsRow w.heap.size 38 1 v k (((zs.take k).map nzN).map fun z : Nat => .int .u32 (z : Int)) ∧ Below w.heap.size w wr) (fun _ i _ => n - (intOf i).toNat)
  case atStart => exact ⟨0, Nat.zero_le _, rfl, by simp, World.ownsRow_lit w #[] 0 (Nat.le_refl _) (by decide) rfl, (Below.refl _ _).alloc (Nat.le_refl _) _⟩
  case round =>
    obtain ⟨k, hk, rfl, hnn, hown, hnx⟩ := hrel
    by_cases hlt : k < n
    · obtain ⟨z, hzk⟩ : ∃ z, zs[k]? = some z := ⟨zs[k]'(by omega), List.getElem?_eq_getElem (by omega)⟩
      have hzb := hz z (List.mem_of_getElem? hzk)
      obtain ⟨blk, off, rfl, hblk, hcs⟩ := hr (by omega)
      have hc : wr.cell? ⟨blk, off + k, none⟩ = some (.int .u32 z) := (hnx.cell (p := ⟨blk, off + k, none⟩) hblk).trans (hcs k z hzk)
      have HR := Lib.hid (take_snoc hzk)
      clear hcs hr hzk
      have ha : bits .and .u32 (z : Int) 127 = ((z &&& 127 : Nat) : Int) := u32_and_nat z 127 hzb (by omega)
      have hor : bits .or .u32 (z : Int) 1 = ((z ||| 1 : Nat) : Int) := u32_or_nat z 1 hzb (by omega)
      by_cases h0 : z &&& 127 = 0
      · have ht : (bits .and .u32 (z : Int) 127 == 0) = true := by rw [ha, h0]; rfl
        have HZ := Lib.hid (show nzN z = z ||| 1 by rw [nzN, if_pos h0])
        clear ha h0
        go_wp2_with (at_builtin; go_must (refine wpList_append_own_at _ rfl (.tmp 18) (.tmp 20) 28 rfl w.heap.size 38 i0 _ 1 4 Try.underlying28 hi hz0 hz1 hz2 rfl (by decide) _ k _ rfl (hown.alloc _) ⟨wr.heap.size, 0, none⟩ 1 1 [.int .u32 ((z ||| 1 : Nat) : Int)] rfl rfl (cell_one_new _ _ _) (by simp; rfl) (by unfold maxLen; omega) (by omega) (by have := hnx.size; simp; omega) ?_); intro v' w1 hown1 hg1 hnn1 _)
        have HNN := Lib.hid (show v' ≠ .slice none 0 0 from fun e => by have := (hnn1.1 e).2; omega)
        clear hnn1
        go_roundw
        case rel => exact ⟨k + 1, by omega, by go_num, HNN.out, by rw [HR.out, List.map_append, List.map_append, List.map_singleton, List.map_singleton, HZ.out]; exact hown1, (hnx.alloc hnx.size _).grown hg1 (by have := hnx.size; simp; omega) (fun g hg => (hown.lt g hg).1)⟩
        case measure => simp [intOf]; omega
      · have ht : (bits .and .u32 (z : Int) 127 == 0) = false := by rw [ha]; simp; omega
        have HZ := Lib.hid (show nzN z = z by rw [nzN, if_neg h0])
        clear ha h0
        go_wp2_with (at_builtin; go_must (refine wpList_append_own_at _ rfl (.tmp 18) (.tmp 20) 28 rfl w.heap.size 38 i0 _ 1 4 Try.underlying28 hi hz0 hz1 hz2 rfl (by decide) _ k _ rfl (hown.alloc _) ⟨wr.heap.size, 0, none⟩ 1 1 [.int .u32 ((z : Nat) : Int)] rfl rfl (cell_one_new _ _ _) (by simp; rfl) (by unfold maxLen; omega) (by omega) (by have := hnx.size; simp; omega) ?_); intro v' w1 hown1 hg1 hnn1 _)
        have HNN := Lib.hid (show v' ≠ .slice none 0 0 from fun e => by have := (hnn1.1 e).2; omega)
        clear hnn1
        go_roundw
        case rel => exact ⟨k + 1, by omega, by go_num, HNN.out, by rw [HR.out, List.map_append, List.map_append, List.map_singleton, List.map_singleton, HZ.out]; exact hown1, (hnx.alloc hnx.size _).grown hg1 (by have := hnx.size; simp; omega) (fun g hg => (hown.lt g hg).1)⟩
        case measure => simp [intOf]; omega
    · go_wp2_with fail
      obtain rfl : k = n := by omega
      go_ret
      rw [List.take_of_length_le (by omega)] at hown
      exact ⟨_, rfl, hnn, hown, hnx⟩

end Go.Proofs.Ytmonokfibldghaa
