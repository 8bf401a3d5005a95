/- Walk of the program's Virtuals. Conditions: at most fifty kinds and parts, as FnVirtuals makes them. -/
import Derived.Test.YtdajihikedjaiaaVirC
import Derived.Test.YtdajihikedjaiaaRows2
namespace Go.Proofs.Ytdajihikedjaiaa
open Go.RowKit Go.Maps

/-- The cell of a number. -/
def cellsI (k : Nat) : List Value := [.int .i64 (k : Int)]
theorem len_cellsI (k : Nat) : (cellsI k).length = 1 := rfl
theorem one_cellsI (k : Nat) : ∀ u ∈ cellsI k, u.oneCell' = true := by
  intro u hu
  simp [cellsI] at hu
  subst hu
  rfl
theorem infoI3 : (Try.prog.info? 3).map (fun i => (i.zero, i.size, i.bytes)) = some (some (.int .i64 0), 1, 8) := by kernel_rfl

/-- The cells of a register as data: its index, kind, parts and name. -/
def cellsT (x : Nat × Nat × Nat × ByteArray) : List Value := [.int .i64 (x.2.1 : Int), .int .u32 (idOf x.1 x.2.1 : Nat), .int .u16 (x.2.2.1 : Int), .int .i64 (szOf x.2.2.1 : Nat), .string x.2.2.2, .bool true]
theorem len_cellsT (x : Nat × Nat × Nat × ByteArray) : (cellsT x).length = 6 := rfl
theorem one_cellsT (x : Nat × Nat × Nat × ByteArray) : ∀ u ∈ cellsT x, u.oneCell' = true := by
  intro u hu
  simp [cellsT] at hu
  rcases hu with rfl | rfl | rfl | rfl | rfl | rfl <;> rfl
theorem infoT35 : (Try.prog.info? 35).map (fun i => (i.zero, i.size, i.bytes)) = some (some (.agg #[.int .i64 0, .int .u32 0, .int .u16 0, .int .i64 0, .string ⟨#[]⟩, .bool false]), 6, 48) := by kernel_rfl

theorem RowR.below {α : Type} {f : α → List Value} {s : Nat} {w w' : World} {A : Option Addr} {l : List α} (h : RowR f s w A l) (hb : Below w.heap.size w w') : RowR f s w' A l := fun h0 => by
  obtain ⟨g, e, hg, hc⟩ := h h0
  exact ⟨g, e, Nat.lt_of_lt_of_le hg hb.size, fun k x hx j u hu => (hb.cell (p := ⟨g, k * s + j, none⟩) hg).trans (hc k x hx j u hu)⟩
theorem RowR.numAt {w : World} {A : Option Addr} {l : List Nat} (h : RowR cellsI 1 w A l) (h0 : 0 < l.length) : ∃ g, A = some ⟨g, 0, none⟩ ∧ g < w.heap.size ∧ ∀ (k x : Nat), l[k]? = some x → w.cell? ⟨g, k, none⟩ = some (.int .i64 (x : Int)) := by
  obtain ⟨g, e, hg, hc⟩ := h h0
  refine ⟨g, e, hg, fun k x hx => ?_⟩
  have := hc k x hx 0 _ rfl
  rw [Nat.mul_one, Nat.add_zero] at this
  exact this

/-- What the registers are, one by one. -/
def RegsOk (ks ss : List Nat) (L : List (Nat × Nat × Nat × ByteArray)) : Prop :=
  ∀ (j : Nat) (x : Nat × Nat × Nat × ByteArray), L[j]? = some x → ks[j]? = some x.2.1 ∧ ss[j]? = some x.2.2.1 ∧ x.1 = (ks.take j).count x.2.1
theorem RegsOk.snoc {ks ss : List Nat} {L : List (Nat × Nat × Nat × ByteArray)} (h : RegsOk ks ss L) {k s : Nat} (hk : ks[L.length]? = some k) (hs : ss[L.length]? = some s) (N : ByteArray) : RegsOk ks ss (L ++ [((ks.take L.length).count k, k, s, N)]) := fun j y hy => by
  by_cases hj : j < L.length
  · rw [List.getElem?_append_left hj] at hy
    exact h j y hy
  · rw [List.getElem?_append_right (by omega)] at hy
    have h1 : j - L.length = 0 := by
      have := (List.getElem?_eq_some_iff.1 hy).1
      simp at this
      omega
    rw [h1] at hy
    simp at hy
    subst hy
    have h2 : j = L.length := by omega
    subst h2
    exact ⟨hk, hs, rfl⟩

/-- What holds at a round's head of the second loop. -/
structure VirS (ks ss : List Nat) (g b : Nat) (w : World) (j : Nat) (v : Value) (L : List (Nat × Nat × Nat × ByteArray)) (wr : World) : Prop where
  len : L.length = j
  ok : RegsOk ks ss L
  own : OwnR cellsT 6 35 wr w.heap.size v L
  cnt : CntIs wr b j (fun k => (ks.take j).count k)
  cell : wr.cell? ⟨g, 0, none⟩ = some (.map (some b))
  neg : v.ownBlock ≠ some g
  neb : v.ownBlock ≠ some b
  lg : g < wr.heap.size
  bel : Below w.heap.size w wr

theorem count_step {ks : List Nat} {j x : Nat} (hx : ks[j]? = some x) : (fun k => (ks.take (j + 1)).count k) = fun i => if i = x then (ks.take j).count x + 1 else (ks.take j).count i := by
  funext k
  rw [List.take_add_one, hx, List.count_append]
  by_cases h : k = x
  · subst h
    simp
  · simp [h, List.count_cons, Ne.symm h]

/-- What holds behind the two calls, and behind the new register's cells. -/
structure MidS (g b : Nat) (w : World) (j : Nat) (v : Value) (L : List (Nat × Nat × Nat × ByteArray)) (cnt' : Nat → Nat) (W : World) : Prop where
  own : OwnR cellsT 6 35 W w.heap.size v L
  cnt : CntIs W b (j + 1) cnt'
  cell : W.cell? ⟨g, 0, none⟩ = some (.map (some b))
  lg : g < W.heap.size
  bel : Below w.heap.size w W

theorem mid_of {ks ss : List Nat} {g b j : Nat} {w wr w2 w3 : World} {v : Value} {L : List (Nat × Nat × Nat × ByteArray)} {cnt' : Nat → Nat} (h : VirS ks ss g b w j v L wr) (hgb : g ≠ b) (hb : w.heap.size ≤ b)
    (hg2 : wr.drew.grownBy w2 (some b)) (hc2 : CntIs w2 b (j + 1) cnt') (hb3 : Below w2.heap.size w2 w3) (C : Obj) : MidS g b w j v L cnt' (w3.alloc C) := by
  have hs2 : wr.heap.size ≤ w2.heap.size := hg2.size
  have b2 : Below w.heap.size w w2 := h.bel.drew.grown hg2 h.bel.size (fun k hk => by cases hk; exact hb)
  have b3 : Below w.heap.size w w3 := b2.trans (hb3.mono b2.size)
  have b4 : Below w3.heap.size w3 (w3.alloc C) := (Below.refl _ _).alloc (Nat.le_refl _) _
  have o1 : OwnR cellsT 6 35 wr.drew w.heap.size v L := h.own.below ((Below.refl _ wr).drew)
  have o2 := o1.kept hg2 (.inr h.neb)
  have c1 : wr.drew.cell? ⟨g, 0, none⟩ = some (.map (some b)) := h.cell
  have c2 := hg2.cell (a := ⟨g, 0, none⟩) c1 (fun e => hgb (Option.some.inj e))
  have l2 : g < w2.heap.size := Nat.lt_of_lt_of_le h.lg hs2
  have c3 := (hb3.cell (p := ⟨g, 0, none⟩) l2).trans c2
  have l3 : g < w3.heap.size := Nat.lt_of_lt_of_le l2 hb3.size
  refine ⟨(o2.below hb3).alloc C, (hc2.below hb3).below b4, (b4.cell (p := ⟨g, 0, none⟩) l3).trans c3, Nat.lt_of_lt_of_le l3 b4.size, b3.trans (b4.mono b3.size)⟩

theorem vir_of {ks ss : List Nat} {g b j x y : Nat} {w wr W W' : World} {v v' : Value} {L : List (Nat × Nat × Nat × ByteArray)} {N : ByteArray} (h : VirS ks ss g b w j v L wr) (hx : ks[j]? = some x) (hy : ss[j]? = some y)
    (m : MidS g b w j v L (fun k => (ks.take (j + 1)).count k) W) (hg : W.grownBy W' v.ownBlock) (ho : v'.ownBlock = v.ownBlock ∨ v'.ownBlock = some W.heap.size) (hown : OwnR cellsT 6 35 W' w.heap.size v' (L ++ [((ks.take j).count x, x, y, N)])) :
    VirS ks ss g b w (j + 1) v' (L ++ [((ks.take j).count x, x, y, N)]) W' := by
  have hl := h.len
  refine ⟨by simp [hl], ?_, hown, m.cnt.kept hg (fun e => h.neb e.symm), hg.cell (a := ⟨g, 0, none⟩) m.cell (fun e => h.neg e.symm), ?_, ?_, Nat.lt_of_lt_of_le m.lg hg.size, m.bel.grown hg m.bel.size m.own.le⟩
  · have := h.ok.snoc (k := x) (s := y) (by rw [hl]; exact hx) (by rw [hl]; exact hy) N
    rw [hl] at this
    exact this
  · rcases ho with e | e
    · rw [e]; exact h.neg
    · rw [e]
      have := m.lg
      simp only [ne_eq, Option.some.injEq]
      omega
  · rcases ho with e | e
    · rw [e]; exact h.neb
    · rw [e]
      have := m.cnt.lt
      simp only [ne_eq, Option.some.injEq]
      omega

set_option maxHeartbeats 2000000 in
set_option maxRecDepth 100000 in
theorem virtuals_any (A B : Option Addr) (cA cB n : Nat) (ks ss : List Nat) (w : World) (hA : RowR cellsI 1 w A ks) (hB : RowR cellsI 1 w B ss) (hk : ks.length = n) (hs : ss.length = n) (hn : n ≤ 50) (hk4 : ∀ k ∈ ks, k < 4) (hs128 : ∀ s ∈ ss, s < 128) :
    Calls Try.prog 7 #[.slice A n cA, .slice B n cB] w fun e w' => ∃ v L, e = .returned v ∧ OwnR cellsT 6 35 w' w.heap.size v L ∧ L.length = n ∧ RegsOk ks ss L ∧ Below w.heap.size w w' := by
  have HA := Lib.hid hA
  have HB := Lib.hid hB
  have HK := Lib.hid hk
  have HS := Lib.hid hs
  have HK4 := Lib.hid hk4
  have HS128 := Lib.hid hs128
  clear hA hB hk hs hk4 hs128
  go_enter Try.func7, Try.ntmps7
  go_wp2_with fail
  go_loopw [21] (fun i wr => ∃ k : Nat, k ≤ n ∧ i = .int .i64 k ∧ Hid (w = wr)) (fun i _ => n - (intOf i).toNat)
  case atStart => exact ⟨0, Nat.zero_le _, rfl, Lib.hid rfl⟩
  case round =>
    obtain ⟨k, hk, rfl, HW⟩ := hrel
    by_cases hlt : k < n
    · obtain ⟨gA, rfl, -, hcA⟩ := HA.out.numAt (by have := HK.out; omega)
      obtain ⟨gB, rfl, -, hcB⟩ := HB.out.numAt (by have := HS.out; omega)
      obtain ⟨x, hx⟩ : ∃ x, ks[k]? = some x := ⟨ks[k]'(by have := HK.out; omega), List.getElem?_eq_getElem _⟩
      obtain ⟨y, hy⟩ : ∃ y, ss[k]? = some y := ⟨ss[k]'(by have := HS.out; omega), List.getElem?_eq_getElem _⟩
      have e0 := hcA k x hx
      have e1 := hcB k y hy
      rw [HW.out] at e0 e1
      have hx4 := HK4.out x (List.mem_of_getElem? hx)
      have hy128 := HS128.out y (List.mem_of_getElem? hy)
      clear hcA hcB hx hy
      go_wp2_with fail
      exact ⟨⟨k + 1, by omega, by go_num, HW⟩, by simp [intOf]; omega⟩
    · obtain rfl : k = n := by omega
      rw [← HW.out]
      go_wp2_with fail
      refine (col_any w).mono ?_
      rintro e w1 ⟨g, b, rfl, hg1, hg2, hb1, hgb, hcell, hcnt, bel1⟩
      have H0 : Hid (VirS ks ss g b w 0 (.slice none 0 0) [] w1) := Lib.hid ⟨rfl, fun j x hx => by simp at hx, OwnR.nil _ _ _ _ _, by simpa using hcnt, hcell, by simp [Value.ownBlock], by simp [Value.ownBlock], hg2, bel1⟩
      have HG := Lib.hid hg1
      have HBb := Lib.hid hb1
      have HNE := Lib.hid hgb
      clear hg1 hg2 hb1 hgb hcell hcnt bel1 HW
      go_wp2_with fail
      go_loopw [7, 54] (fun v i wv => ∃ (j : Nat) (L : List (Nat × Nat × Nat × ByteArray)), j ≤ k ∧ i = .int .i64 j ∧ VirS ks ss g b w j v L wv) (fun _ i _ => k - (intOf i).toNat)
      case atStart => exact ⟨0, [], Nat.zero_le _, rfl, H0.out⟩
      case round =>
        obtain ⟨j, L, hj, rfl, hst⟩ := hrel
        have HST := Lib.hid hst
        clear hst H0
        by_cases hlt : j < k
        · obtain ⟨gA, rfl, hgA, hcA⟩ := HA.out.numAt (by have := HK.out; omega)
          obtain ⟨gB, rfl, hgB, hcB⟩ := HB.out.numAt (by have := HS.out; omega)
          obtain ⟨x, hx⟩ : ∃ x, ks[j]? = some x := ⟨ks[j]'(by have := HK.out; omega), List.getElem?_eq_getElem _⟩
          obtain ⟨y, hy⟩ : ∃ y, ss[j]? = some y := ⟨ss[j]'(by have := HS.out; omega), List.getElem?_eq_getElem _⟩
          have e0 := (HST.out.bel.cell (p := ⟨gA, j, none⟩) hgA).trans (hcA j x hx)
          have e1 := (HST.out.bel.cell (p := ⟨gB, j, none⟩) hgB).trans (hcB j y hy)
          have hx4 := HK4.out x (List.mem_of_getElem? hx)
          have hy128 := HS128.out y (List.mem_of_getElem? hy)
          have hcb : (ks.take j).count x ≤ j := Nat.le_trans List.count_le_length (List.length_take_le _ _)
          have m1 : IntKind.u8.wrap (x : Int) = x := IntWalk.u8_in _ (by omega)
          have m2 : IntKind.u16.wrap (y : Int) = y := IntWalk.u16_in _ (by omega)
          have HX := Lib.hid hx
          have HY := Lib.hid hy
          have HV : Hid (Calls Try.prog 11 #[.pointer (some ⟨g, 0, none⟩), .int .u8 (x : Int), .int .u16 (y : Int)] wr.drew fun e w' => e = .returned (vReg ((ks.take j).count x) x y) ∧ CntIs w' b (j + 1) (fun k => (ks.take (j + 1)).count k) ∧ wr.drew.grownBy w' (some b)) :=
            Lib.hid ((vreg_any g b j x y (fun k => (ks.take j).count k) wr.drew HST.out.cell (HST.out.cnt.below ((Below.refl _ wr).drew)) hx4 (by omega) (by omega)).mono fun e w' ⟨h1, h2, h3⟩ => ⟨h1, by rw [count_step hx]; exact h2, h3⟩)
          have HT := Lib.hid (fun W => told_any ((ks.take j).count x) x y W (by omega) hx4 hy128)
          have HFIN : Hid (∀ (N : ByteArray) (W W' : World) (v' : Value), MidS g b w j u7 L (fun k => (ks.take (j + 1)).count k) W → W.grownBy W' u7.ownBlock → (v'.ownBlock = u7.ownBlock ∨ v'.ownBlock = some W.heap.size) → OwnR cellsT 6 35 W' w.heap.size v' (L ++ [((ks.take j).count x, x, y, N)]) → VirS ks ss g b w (j + 1) v' (L ++ [((ks.take j).count x, x, y, N)]) W') :=
            Lib.hid (fun N W W' v' hm hg ho hown => vir_of HST.out hx hy hm hg ho hown)
          have HL : Hid (L.length < 4294967296) := Lib.hid (by have := HST.out.len; omega)
          obtain ⟨a, ha⟩ : ∃ a, (ks.take j).count x = a := ⟨_, rfl⟩
          rw [ha] at HV HT HFIN
          unfold told at HT
          obtain ⟨I, hI⟩ : ∃ I, idOf a x = I := ⟨_, rfl⟩
          obtain ⟨z, hz⟩ : ∃ z, szOf y = z := ⟨_, rfl⟩
          have HI := Lib.hid hI
          have HZ := Lib.hid hz
          rw [hI, hz] at HT
          have HNEW : Hid (∀ (N : ByteArray) (W : World) (i : Nat) (u : Value), (cellsT (a, x, y, N))[i]? = some u → (W.alloc (.cells #[.int .i64 (x : Int), .int .u32 (I : Int), .int .u16 (y : Int), .int .i64 (z : Int), .string N, .bool true] 35)).cell? ⟨W.heap.size, i, none⟩ = some u) := Lib.hid (by
            intro N W i u hu
            rw [cell_of_row (W.alloc (.cells #[.int .i64 (x : Int), .int .u32 (I : Int), .int .u16 (y : Int), .int .i64 (z : Int), .string N, .bool true] 35)) W.heap.size i _ 35 (0, 0) (MapKept.heap_alloc W _).1, ← HI.out, ← HZ.out]
            simpa [cellsT] using hu)
          have e0' : wr.drew.cell? ⟨gA, j, none⟩ = some (.int .i64 (x : Int)) := e0
          have e1' : wr.drew.cell? ⟨gB, j, none⟩ = some (.int .i64 (y : Int)) := e1
          have nA : Hid (some gA ≠ some b) := Lib.hid (by have := HBb.out; simp only [ne_eq, Option.some.injEq]; omega)
          have nB : Hid (some gB ≠ some b) := Lib.hid (by have := HBb.out; simp only [ne_eq, Option.some.injEq]; omega)
          have lA : Hid (gA < wr.drew.heap.size) := Lib.hid (Nat.lt_of_lt_of_le hgA HST.out.bel.size)
          have lB : Hid (gB < wr.drew.heap.size) := Lib.hid (Nat.lt_of_lt_of_le hgB HST.out.bel.size)
          have oA : Hid (some gA ≠ u7.ownBlock) := Lib.hid (fun e => by have := HST.out.own.le gA e.symm; omega)
          have oB : Hid (some gB ≠ u7.ownBlock) := Lib.hid (fun e => by have := HST.out.own.le gB e.symm; omega)
          clear hcA hcB hx hy hgA hgB hcb ha hI hz hx4 hy128
          go_wp2_with fail
          go_region_held3 (fun w' => w'.cell? ⟨gA, j, none⟩ = some (.int .i64 (x : Int)) ∧ w'.cell? ⟨gB, j, none⟩ = some (.int .i64 (y : Int)))
            (go_keep)
            ((first
              | (go_at_call 11; refine HV.out.mono ?_; rintro e w2 ⟨rfl, hcnt2, hg2⟩; have d0 := hg2.cell (a := ⟨gA, j, none⟩) e0' nA.out; have d1 := hg2.cell (a := ⟨gB, j, none⟩) e1' nB.out)
              | (go_at_call 10; refine (HT.out _).mono ?_; rintro e w3 ⟨N, rfl, hb3⟩; have d2 := (hb3.cell (p := ⟨gA, j, none⟩) (Nat.lt_of_lt_of_le lA.out hg2.size)).trans d0; have d3 := (hb3.cell (p := ⟨gB, j, none⟩) (Nat.lt_of_lt_of_le lB.out hg2.size)).trans d1; have HM := Lib.hid (mid_of HST.out HNE.out HBb.out hg2 hcnt2 hb3 (.cells #[.int .i64 (x : Int), .int .u32 (I : Int), .int .u16 (y : Int), .int .i64 (z : Int), .string N, .bool true] 35)))
              | (refine step_app1 _ rfl len_cellsT one_cellsT (by decide) 48 _ rfl (by decide) (.tmp 57) (.tmp 71) 30 35 rfl Try.underlying30 infoT35 w.heap.size u7 L rfl HM.out.own w3.heap.size 1 (a, x, y, N) rfl (HNEW.out N w3) HL.out HM.out.bel.size ?_; intro v4 w4 h4 g4 o4 n4; have d4 := g4.cell (a := ⟨gA, j, none⟩) ((World.cell?_alloc_lt w3 _ ⟨gA, j, none⟩ (Nat.lt_of_lt_of_le (Nat.lt_of_lt_of_le lA.out hg2.size) hb3.size)).trans d2) oA.out; have d5 := g4.cell (a := ⟨gB, j, none⟩) ((World.cell?_alloc_lt w3 _ ⟨gB, j, none⟩ (Nat.lt_of_lt_of_le (Nat.lt_of_lt_of_le lB.out hg2.size) hb3.size)).trans d3) oB.out)))
          all_goals go_wp2
          all_goals exact ⟨⟨j + 1, _, by omega, by go_num, HFIN.out N _ w4 _ HM.out g4 o4 h4⟩, by simp [intOf]; omega⟩
        · obtain rfl : j = k := by omega
          go_wp2
          go_ret
          exact ⟨_, L, rfl, HST.out.own, HST.out.len, HST.out.ok, HST.out.bel⟩

end Go.Proofs.Ytdajihikedjaiaa
