/- Walks of a constraint's reading, and of what the statements ask of it. Conditions: the library's table lies as it is laid; at most six options. -/
import Derived.Test.YtjmmfhgdjndabaaRRDoorTagF
namespace Go.Proofs.YtjmmfhgdjndabaaRRDoor
open Go.RowKit Go.Maps

/-- The cell of a slice. -/
def cellsV (x : Option Addr × Nat × Nat) : List Value := [.slice x.1 x.2.1 x.2.2]
theorem len_cellsV (x : Option Addr × Nat × Nat) : (cellsV x).length = 1 := rfl
theorem one_cellsV (x : Option Addr × Nat × Nat) : ∀ u ∈ cellsV x, u.oneCell' = true := by
  intro u hu
  simp [cellsV] at hu
  subst hu
  rfl
theorem infoU65 : (Tryd.prog.info? 65).map (fun i => (i.zero, i.size, i.bytes)) = some (some (.slice none 0 0), 1, 24) := by kernel_rfl
theorem own65_empty (w : World) (base : Nat) (hb : base ≤ w.heap.size) : OwnR cellsV 1 65 (w.alloc (.cells #[] 65)) base (.slice (some ⟨w.heap.size, 0, none⟩) 0 0) [] := World.ownsRow_lit w #[] 0 hb (by decide) (by simp)

/-- The options read so far, each in a row of its own. -/
def PartsR (w : World) (B : Nat) (c : List (List Tm)) (L : List (Option Addr × Nat × Nat)) : Prop :=
  ∀ (j : Nat) (x : Option Addr × Nat × Nat), L[j]? = some x → ∃ o, c[j]? = some o ∧ x.2.1 = o.length ∧ OwnR cellsU 1 79 w B (.slice x.1 x.2.1 x.2.2) (o.map tt)
theorem PartsR.below {w w' : World} {B : Nat} {c : List (List Tm)} {L : List (Option Addr × Nat × Nat)} (h : PartsR w B c L) (hb : Below w.heap.size w w') : PartsR w' B c L := fun j x hx => by
  obtain ⟨o, h1, h2, h3⟩ := h j x hx
  exact ⟨o, h1, h2, h3.below hb⟩
theorem PartsR.kept {w w' : World} {B B' : Nat} {c : List (List Tm)} {L : List (Option Addr × Nat × Nat)} {v : Value} {n : Nat} {xs : List Value} (h : PartsR w B c L) (hg : w.grownBy w' v.ownBlock) (hv : w.ownsRow B' 65 1 v n xs) : PartsR w' B c L := fun j x hx => by
  obtain ⟨o, h1, h2, h3⟩ := h j x hx
  exact ⟨o, h1, h2, h3.kept hg (own_apart h3 hv (by decide))⟩
theorem PartsR.snoc {w : World} {B : Nat} {c : List (List Tm)} {L : List (Option Addr × Nat × Nat)} {x : Option Addr × Nat × Nat} {o : List Tm} (h : PartsR w B c L) (ho : c[L.length]? = some o) (hx : x.2.1 = o.length) (hr : OwnR cellsU 1 79 w B (.slice x.1 x.2.1 x.2.2) (o.map tt)) : PartsR w B c (L ++ [x]) := fun j y hy => by
  by_cases hj : j < L.length
  · rw [List.getElem?_append_left hj] at hy
    exact h j y hy
  · rw [List.getElem?_append_right (by omega)] at hy
    have h1 : j - L.length = 0 := by
      have := (List.getElem?_eq_some_iff.1 hy).1
      simp at this
      omega
    rw [h1] at hy
    simp at hy
    subst hy
    have h2 : j = L.length := by omega
    subst h2
    exact ⟨o, ho, hx, hr⟩
theorem PartsR.con {w : World} {B B' : Nat} {c : List (List Tm)} {L : List (Option Addr × Nat × Nat)} {A : Option Addr} {n cp : Nat} (h : PartsR w B c L) (hl : L.length = c.length) (hv : OwnR cellsV 1 65 w B' (.slice A n cp) L) : ConR w A c := fun h0 => by
  obtain ⟨A', c', e', hr⟩ := hv.form len_cellsV
  simp only [Value.slice.injEq] at e'
  obtain ⟨rfl, -, -⟩ := e'
  obtain ⟨g, rfl, hg, hc⟩ := hr (by omega)
  refine ⟨g, rfl, hg, fun k o ho => ?_⟩
  have hk : k < L.length := by rw [hl]; exact (List.getElem?_eq_some_iff.1 ho).1
  obtain ⟨o', h1, h2, h3⟩ := h k L[k] (List.getElem?_eq_getElem hk)
  rw [ho] at h1
  obtain rfl := Option.some.inj h1
  have h4 := hc k L[k] (List.getElem?_eq_getElem hk) 0 _ rfl
  rw [Nat.mul_one, Nat.add_zero] at h4
  refine ⟨L[k].1, L[k].2.2, by rw [h4, h2], ?_⟩
  obtain ⟨A2, c2, e2, hr2⟩ := h3.form len_cellsU
  simp only [Value.slice.injEq] at e2
  obtain ⟨rfl, -, -⟩ := e2
  exact hr2

set_option maxHeartbeats 1000000 in
set_option maxRecDepth 100000 in
theorem parseConstraint_any (c : List (List Tm)) (ho : OkC c) (w : World) (hT : TabP w) :
    Calls Tryd.prog 20 #[.string ⟨(ct c).toArray⟩] w fun e w' => ∃ A cp, e = .returned (.tuple #[.slice A c.length cp, .nilIface]) ∧ ConR w' A c ∧ Below w.heap.size w w' := by
  have HS := Lib.hid (zzFields_any (ct c) (ct_ok c) (by have := ct_len ho.1 (fun o hm => (ho.2 o hm).1.1); omega))
  have HE := Lib.hid (field_ct (c := c) (fun o hm => (ho.2 o hm).2))
  have HO := Lib.hid ho
  have HT := Lib.hid hT
  obtain ⟨n, hn⟩ : ∃ n, c.length = n := ⟨_, rfl⟩
  have HN := Lib.hid hn
  have hn6 : n ≤ 6 := by have := ho.1; omega
  obtain ⟨N, hN⟩ : ∃ N : ByteArray, ⟨(ct c).toArray⟩ = N := ⟨_, rfl⟩
  rw [hN] at HS ⊢
  rw [hn]
  have H65 := Lib.hid (own65_empty w w.heap.size (Nat.le_refl _))
  clear ho hT hn hN
  go_enter Tryd.func20, Tryd.ntmps20
  go_wp2_with fail
  refine (HS.out _).mono ?_
  rintro e w1 ⟨v1, rfl, hown1, bel1⟩
  rw [HE.out] at hown1
  have HB1 := Lib.hid (((Below.refl w.heap.size w).alloc (Nat.le_refl _) (.cells #[] 65)).trans (bel1.mono (by simp)))
  have HV1 := Lib.hid (H65.out.below bel1)
  have HR1 := Lib.hid (hown1.mono (base' := w.heap.size) (by simp))
  obtain ⟨A, cp, e1, -⟩ := hown1.form len_cellsU
  have hl : (c.map ot).length = n := by simp [HN.out]
  rw [hl] at e1
  subst e1
  clear hown1 bel1 H65 hl
  go_wp2_with fail
  go_loopw [4, 13] (fun v i wr => ∃ (k : Nat) (L : List (Option Addr × Nat × Nat)), k ≤ n ∧ i = .int .i64 k ∧ L.length = k ∧ OwnR cellsV 1 65 wr w.heap.size v L ∧ PartsR wr w.heap.size c L ∧ OwnR cellsU 1 9 wr w.heap.size (.slice A n cp) (c.map ot) ∧ Below w.heap.size w wr) (fun _ i _ => n - (intOf i).toNat)
  case atStart => exact ⟨0, [], Nat.zero_le _, rfl, rfl, HV1.out, (fun j x hx => by simp at hx), HR1.out, HB1.out⟩
  case round =>
    obtain ⟨k, L, hk, rfl, hL, hown, hparts, hrow, bel⟩ := hrel
    by_cases hlt : k < n
    · obtain ⟨o, ho⟩ : ∃ o, c[k]? = some o := ⟨c[k]'(by have := HN.out; omega), List.getElem?_eq_getElem _⟩
      obtain ⟨g, rfl, hg, -, hc⟩ := rows_textsU hrow (by have := HN.out; simp; omega)
      have e0 := hc k ⟨(ot o).toArray⟩ (by simp [ho])
      rw [Nat.zero_add] at e0
      have hok := HO.out.2 o (List.mem_of_getElem? ho)
      have HP := Lib.hid (parseOption_any o hok.2 hok.1 wr (HT.out.below bel))
      obtain ⟨N, hN⟩ : ∃ N : ByteArray, ⟨(ot o).toArray⟩ = N := ⟨_, rfl⟩
      rw [hN] at e0 HP
      have HOWN := Lib.hid hown
      have HPA := Lib.hid hparts
      have HRO := Lib.hid hrow
      have HB := Lib.hid bel
      have HLK := Lib.hid hL
      have HOO := Lib.hid ho
      clear hc hok hN bel hown hrow hparts HB1 HV1 HR1 ho hL
      go_wp2_with fail
      refine HP.out.mono ?_
      rintro e w2 ⟨A2, c2, rfl, hown2, bel2⟩
      have HOWN2 := Lib.hid ((HOWN.out.below bel2).alloc (.cells #[.slice A2 o.length c2] 65))
      have HPA2 := Lib.hid (((HPA.out.below bel2).snoc (x := (A2, o.length, c2)) (by rw [HLK.out]; exact HOO.out) rfl (hown2.mono HB.out.size)).below ((Below.refl _ w2).alloc (Nat.le_refl _) (.cells #[.slice A2 o.length c2] 65)))
      have HRO2 := Lib.hid ((HRO.out.below bel2).alloc (.cells #[.slice A2 o.length c2] 65))
      have HB2 := Lib.hid ((HB.out.trans (bel2.mono HB.out.size)).alloc (Nat.le_trans HB.out.size bel2.size) (.cells #[.slice A2 o.length c2] 65))
      have HZ : Hid (w.heap.size ≤ (w2.alloc (.cells #[.slice A2 o.length c2] 65)).heap.size) := Lib.hid HB2.out.size
      obtain ⟨m, hm⟩ : ∃ m, o.length = m := ⟨_, rfl⟩
      rw [hm] at HOWN2 HPA2 HRO2 HB2 HZ ⊢
      have HNEW : Hid (∀ j u, (cellsV (A2, m, c2))[j]? = some u → (w2.alloc (.cells #[.slice A2 m c2] 65)).cell? ⟨w2.heap.size, j, none⟩ = some u) := Lib.hid (by
        intro j u hu
        match j, hu with
        | 0, hu => simp [cellsV] at hu; subst hu; simp)
      have HL : Hid (L.length < 4294967296) := Lib.hid (by have := HLK.out; omega)
      clear hown2 bel2 HOWN HPA HRO HB HP
      go_wp2_with ((at_builtin; (refine wpList_app1 _ rfl len_cellsV one_cellsV (by decide) 24 _ rfl (by decide) (.tmp 26) (.tmp 28) 48 65 rfl Tryd.underlying48 infoU65 w.heap.size u4 L rfl HOWN2.out w2.heap.size 1 (A2, m, c2) rfl HNEW.out HL.out HZ.out ?_); intro v3 w3 h3 g3 o3 n3))
      have F := HB2.out.grown g3 HZ.out HOWN2.out.le
      have F2 := HRO2.out.kept g3 (own_apart HRO2.out HOWN2.out (by decide))
      have F3 := HPA2.out.kept g3 HOWN2.out
      exact ⟨⟨k + 1, L ++ [(A2, m, c2)], by omega, by go_num, by simp [HLK.out], h3, F3, F2, F⟩, by simp [intOf]; omega⟩
    · obtain rfl : k = n := by omega
      obtain ⟨A2, c2, e2, -⟩ := hown.form len_cellsV
      rw [hL] at e2
      subst e2
      have F := Lib.hid bel
      have FC := Lib.hid (hparts.con (by rw [hL, HN.out]) hown)
      clear hown bel hrow hparts
      go_wp2
      go_ret2
      exact ⟨A2, c2, rfl, FC.out, F.out⟩

end Go.Proofs.YtjmmfhgdjndabaaRRDoor
