/- Walks of constraints: that each is right, what all tell of tags, their texts; and the reading of one that says where it lies. Conditions: the library's table lies as it is laid; lengths as stated. -/
import Derived.Test.YtjmmfhgdjndabaaRRDoorTagL
namespace Go.Proofs.YtjmmfhgdjndabaaRRDoor
open Go.RowKit Go.Maps

/-- A constraint in rows of the call's own. -/
def ConO (w : World) (B : Nat) (c : List (List Tm)) (A : Option Addr) (cp : Nat) : Prop :=
  ∃ L : List (Option Addr × Nat × Nat), L.length = c.length ∧ OwnR cellsV 1 65 w B (.slice A c.length cp) L ∧ PartsR w B c L
theorem ConO.con {w : World} {B : Nat} {c : List (List Tm)} {A : Option Addr} {cp : Nat} (h : ConO w B c A cp) : ConR w A c := by
  obtain ⟨L, h1, h2, h3⟩ := h
  exact h3.con h1 h2
theorem ConO.below {w w' : World} {B : Nat} {c : List (List Tm)} {A : Option Addr} {cp : Nat} (h : ConO w B c A cp) (hb : Below w.heap.size w w') : ConO w' B c A cp := by
  obtain ⟨L, h1, h2, h3⟩ := h
  exact ⟨L, h1, h2.below hb, h3.below hb⟩
theorem PartsR.grown {w w' : World} {B B' : Nat} {c : List (List Tm)} {L : List (Option Addr × Nat × Nat)} {v : Value} {n : Nat} {xs : List Value} (h : PartsR w B c L) (hg : w.grownBy w' v.ownBlock) (hv : w.ownsRow B' 48 1 v n xs) : PartsR w' B c L := fun j x hx => by
  obtain ⟨o, h1, h2, h3⟩ := h j x hx
  exact ⟨o, h1, h2, h3.kept hg (own_apart h3 hv (by decide))⟩
theorem ConO.grown {w w' : World} {B B' : Nat} {c : List (List Tm)} {A : Option Addr} {cp : Nat} {v : Value} {n : Nat} {xs : List Value} (h : ConO w B c A cp) (hg : w.grownBy w' v.ownBlock) (hv : w.ownsRow B' 48 1 v n xs) : ConO w' B c A cp := by
  obtain ⟨L, h1, h2, h3⟩ := h
  exact ⟨L, h1, h2.kept hg (own_apart h2 hv (by decide)), h3.grown hg hv⟩
theorem ConO.mono {w : World} {B B' : Nat} {c : List (List Tm)} {A : Option Addr} {cp : Nat} (h : ConO w B c A cp) (hb : B' ≤ B) : ConO w B' c A cp := by
  obtain ⟨L, h1, h2, h3⟩ := h
  exact ⟨L, h1, h2.mono hb, fun j x hx => by
    obtain ⟨o, k1, k2, k3⟩ := h3 j x hx
    exact ⟨o, k1, k2, k3.mono hb⟩⟩

set_option maxHeartbeats 1000000 in
set_option maxRecDepth 100000 in
theorem parseConstraintO_any (c : List (List Tm)) (ho : OkC c) (w : World) (hT : TabP w) :
    Calls Tryd.prog 20 #[.string ⟨(ct c).toArray⟩] w fun e w' => ∃ A cp, e = .returned (.tuple #[.slice A c.length cp, .nilIface]) ∧ ConO w' w.heap.size c A cp ∧ Below w.heap.size w w' := by
  have HS := Lib.hid (zzFields_any (ct c) (ct_ok c) (by have := ct_len ho.1 (fun o hm => (ho.2 o hm).1.1); omega))
  have HE := Lib.hid (field_ct (c := c) (fun o hm => (ho.2 o hm).2))
  have HO := Lib.hid ho
  have HT := Lib.hid hT
  obtain ⟨n, hn⟩ : ∃ n, c.length = n := ⟨_, rfl⟩
  have HN := Lib.hid hn
  have hn6 : n ≤ 6 := by have := ho.1; omega
  obtain ⟨N, hN⟩ : ∃ N : ByteArray, ⟨(ct c).toArray⟩ = N := ⟨_, rfl⟩
  rw [hN] at HS ⊢
  rw [hn]
  have H65 := Lib.hid (own65_empty w w.heap.size (Nat.le_refl _))
  clear ho hT hn hN
  go_enter Tryd.func20, Tryd.ntmps20
  go_wp2_with fail
  refine (HS.out _).mono ?_
  rintro e w1 ⟨v1, rfl, hown1, bel1⟩
  rw [HE.out] at hown1
  have HB1 := Lib.hid (((Below.refl w.heap.size w).alloc (Nat.le_refl _) (.cells #[] 65)).trans (bel1.mono (by simp)))
  have HV1 := Lib.hid (H65.out.below bel1)
  have HR1 := Lib.hid (hown1.mono (base' := w.heap.size) (by simp))
  obtain ⟨A, cp, e1, -⟩ := hown1.form len_cellsU
  have hl : (c.map ot).length = n := by simp [HN.out]
  rw [hl] at e1
  subst e1
  clear hown1 bel1 H65 hl
  go_wp2_with fail
  go_loopw [4, 13] (fun v i wr => ∃ (k : Nat) (L : List (Option Addr × Nat × Nat)), k ≤ n ∧ i = .int .i64 k ∧ L.length = k ∧ OwnR cellsV 1 65 wr w.heap.size v L ∧ PartsR wr w.heap.size c L ∧ OwnR cellsU 1 9 wr w.heap.size (.slice A n cp) (c.map ot) ∧ Below w.heap.size w wr) (fun _ i _ => n - (intOf i).toNat)
  case atStart => exact ⟨0, [], Nat.zero_le _, rfl, rfl, HV1.out, (fun j x hx => by simp at hx), HR1.out, HB1.out⟩
  case round =>
    obtain ⟨k, L, hk, rfl, hL, hown, hparts, hrow, bel⟩ := hrel
    by_cases hlt : k < n
    · obtain ⟨o, ho⟩ : ∃ o, c[k]? = some o := ⟨c[k]'(by have := HN.out; omega), List.getElem?_eq_getElem _⟩
      obtain ⟨g, rfl, hg, -, hc⟩ := rows_textsU hrow (by have := HN.out; simp; omega)
      have e0 := hc k ⟨(ot o).toArray⟩ (by simp [ho])
      rw [Nat.zero_add] at e0
      have hok := HO.out.2 o (List.mem_of_getElem? ho)
      have HP := Lib.hid (parseOption_any o hok.2 hok.1 wr (HT.out.below bel))
      obtain ⟨N, hN⟩ : ∃ N : ByteArray, ⟨(ot o).toArray⟩ = N := ⟨_, rfl⟩
      rw [hN] at e0 HP
      have HOWN := Lib.hid hown
      have HPA := Lib.hid hparts
      have HRO := Lib.hid hrow
      have HB := Lib.hid bel
      have HLK := Lib.hid hL
      have HOO := Lib.hid ho
      clear hc hok hN bel hown hrow hparts HB1 HV1 HR1 ho hL
      go_wp2_with fail
      refine HP.out.mono ?_
      rintro e w2 ⟨A2, c2, rfl, hown2, bel2⟩
      have HOWN2 := Lib.hid ((HOWN.out.below bel2).alloc (.cells #[.slice A2 o.length c2] 65))
      have HPA2 := Lib.hid (((HPA.out.below bel2).snoc (x := (A2, o.length, c2)) (by rw [HLK.out]; exact HOO.out) rfl (hown2.mono HB.out.size)).below ((Below.refl _ w2).alloc (Nat.le_refl _) (.cells #[.slice A2 o.length c2] 65)))
      have HRO2 := Lib.hid ((HRO.out.below bel2).alloc (.cells #[.slice A2 o.length c2] 65))
      have HB2 := Lib.hid ((HB.out.trans (bel2.mono HB.out.size)).alloc (Nat.le_trans HB.out.size bel2.size) (.cells #[.slice A2 o.length c2] 65))
      have HZ : Hid (w.heap.size ≤ (w2.alloc (.cells #[.slice A2 o.length c2] 65)).heap.size) := Lib.hid HB2.out.size
      obtain ⟨m, hm⟩ : ∃ m, o.length = m := ⟨_, rfl⟩
      rw [hm] at HOWN2 HPA2 HRO2 HB2 HZ ⊢
      have HNEW : Hid (∀ j u, (cellsV (A2, m, c2))[j]? = some u → (w2.alloc (.cells #[.slice A2 m c2] 65)).cell? ⟨w2.heap.size, j, none⟩ = some u) := Lib.hid (by
        intro j u hu
        match j, hu with
        | 0, hu => simp [cellsV] at hu; subst hu; simp)
      have HL : Hid (L.length < 4294967296) := Lib.hid (by have := HLK.out; omega)
      clear hown2 bel2 HOWN HPA HRO HB HP
      go_wp2_with ((at_builtin; (refine wpList_app1 _ rfl len_cellsV one_cellsV (by decide) 24 _ rfl (by decide) (.tmp 26) (.tmp 28) 48 65 rfl Tryd.underlying48 infoU65 w.heap.size u4 L rfl HOWN2.out w2.heap.size 1 (A2, m, c2) rfl HNEW.out HL.out HZ.out ?_); intro v3 w3 h3 g3 o3 n3))
      have F := HB2.out.grown g3 HZ.out HOWN2.out.le
      have F2 := HRO2.out.kept g3 (own_apart HRO2.out HOWN2.out (by decide))
      have F3 := HPA2.out.kept g3 HOWN2.out
      exact ⟨⟨k + 1, L ++ [(A2, m, c2)], by omega, by go_num, by simp [HLK.out], h3, F3, F2, F⟩, by simp [intOf]; omega⟩
    · obtain rfl : k = n := by omega
      obtain ⟨A2, c2, e2, -⟩ := hown.form len_cellsV
      rw [hL] at e2
      subst e2
      have F := Lib.hid bel
      have FC : Hid (ConO wr w.heap.size c A2 c2) := Lib.hid ⟨L, by rw [hL, HN.out], by rw [HN.out]; exact hown, hparts⟩
      clear hown bel hrow hparts
      go_wp2
      go_ret2
      exact ⟨A2, c2, rfl, FC.out, F.out⟩


/-- The constraints read so far. -/
def PartsC (w : World) (B : Nat) (cs : List (List (List Tm))) (L : List (Option Addr × Nat × Nat)) : Prop :=
  ∀ (j : Nat) (x : Option Addr × Nat × Nat), L[j]? = some x → ∃ c, cs[j]? = some c ∧ x.2.1 = c.length ∧ ConO w B c x.1 x.2.2
theorem PartsC.below {w w' : World} {B : Nat} {cs : List (List (List Tm))} {L : List (Option Addr × Nat × Nat)} (h : PartsC w B cs L) (hb : Below w.heap.size w w') : PartsC w' B cs L := fun j x hx => by
  obtain ⟨c, h1, h2, h3⟩ := h j x hx
  exact ⟨c, h1, h2, h3.below hb⟩
theorem PartsC.grown {w w' : World} {B B' : Nat} {cs : List (List (List Tm))} {L : List (Option Addr × Nat × Nat)} {v : Value} {n : Nat} {xs : List Value} (h : PartsC w B cs L) (hg : w.grownBy w' v.ownBlock) (hv : w.ownsRow B' 48 1 v n xs) : PartsC w' B cs L := fun j x hx => by
  obtain ⟨c, h1, h2, h3⟩ := h j x hx
  exact ⟨c, h1, h2, h3.grown hg hv⟩
theorem PartsC.snoc {w : World} {B : Nat} {cs : List (List (List Tm))} {L : List (Option Addr × Nat × Nat)} {x : Option Addr × Nat × Nat} {c : List (List Tm)} (h : PartsC w B cs L) (ho : cs[L.length]? = some c) (hx : x.2.1 = c.length) (hr : ConO w B c x.1 x.2.2) : PartsC w B cs (L ++ [x]) := fun j y hy => by
  by_cases hj : j < L.length
  · rw [List.getElem?_append_left hj] at hy
    exact h j y hy
  · rw [List.getElem?_append_right (by omega)] at hy
    have h1 : j - L.length = 0 := by
      have := (List.getElem?_eq_some_iff.1 hy).1
      simp at this
      omega
    rw [h1] at hy
    simp at hy
    subst hy
    have h2 : j = L.length := by omega
    subst h2
    exact ⟨c, ho, hx, hr⟩

/-- A slice value reads as the constraints cs. -/
def ConsR (w : World) (A : Option Addr) (cs : List (List (List Tm))) : Prop :=
  0 < cs.length → ∃ g, A = some ⟨g, 0, none⟩ ∧ g < w.heap.size ∧ ∀ (k : Nat) (c : List (List Tm)), cs[k]? = some c → ∃ A' c', w.cell? ⟨g, k, none⟩ = some (.slice A' c.length c') ∧ ConR w A' c
theorem ConsR.below {w w' : World} {A : Option Addr} {cs : List (List (List Tm))} (h : ConsR w A cs) (hb : Below w.heap.size w w') : ConsR w' A cs := fun h0 => by
  obtain ⟨g, e, hg, hc⟩ := h h0
  refine ⟨g, e, Nat.lt_of_lt_of_le hg hb.size, fun k o ho => ?_⟩
  obtain ⟨A', c', h1, h2⟩ := hc k o ho
  exact ⟨A', c', (hb.cell (p := ⟨g, k, none⟩) hg).trans h1, h2.below hb⟩
theorem PartsC.cons {w : World} {B B' : Nat} {cs : List (List (List Tm))} {L : List (Option Addr × Nat × Nat)} {A : Option Addr} {n cp : Nat} (h : PartsC w B cs L) (hl : L.length = cs.length) (hv : OwnR cellsV 1 48 w B' (.slice A n cp) L) : ConsR w A cs := fun h0 => by
  obtain ⟨A', c', e', hr⟩ := hv.form len_cellsV
  simp only [Value.slice.injEq] at e'
  obtain ⟨rfl, -, -⟩ := e'
  obtain ⟨g, rfl, hg, hc⟩ := hr (by omega)
  refine ⟨g, rfl, hg, fun k o ho => ?_⟩
  have hk : k < L.length := by rw [hl]; exact (List.getElem?_eq_some_iff.1 ho).1
  obtain ⟨o', h1, h2, h3⟩ := h k L[k] (List.getElem?_eq_getElem hk)
  rw [ho] at h1
  obtain rfl := Option.some.inj h1
  have h4 := hc k L[k] (List.getElem?_eq_getElem hk) 0 _ rfl
  rw [Nat.mul_one, Nat.add_zero] at h4
  exact ⟨L[k].1, L[k].2.2, by rw [h4, h2], h3.con⟩

/-- Constraints of options of terms of the six tags. -/
def OkS (cs : List (List (List Tm))) : Prop := cs.length ≤ 4 ∧ ∀ c ∈ cs, OkC c ∧ c ≠ []

set_option maxRecDepth 100000 in
theorem consValidate_any (A : Option Addr) (cp n : Nat) (cs : List (List (List Tm))) (w : World) (hr : ConsR w A cs) (hn : cs.length = n) (ho : OkS cs) (hT : TabP w) :
    Calls Tryd.prog 27 #[.slice A n cp] w fun e w' => e = .returned .nilIface ∧ Below w.heap.size w w' := by
  have hn6 : n ≤ 4 := by have := ho.1; omega
  have HN := Lib.hid hn
  have HO := Lib.hid ho
  have HT := Lib.hid hT
  clear hn ho hT
  go_enter Tryd.func27, Tryd.ntmps27
  go_wp2_with fail
  go_loopw [8] (fun i wr => ∃ k : Nat, k ≤ n ∧ i = .int .i64 k ∧ Below w.heap.size w wr) (fun i _ => n - (intOf i).toNat)
  case atStart => exact ⟨0, Nat.zero_le _, rfl, Below.refl _ _⟩
  case round =>
    obtain ⟨k, hk, rfl, bel⟩ := hrel
    by_cases hlt : k < n
    · obtain ⟨c, ho⟩ : ∃ c, cs[k]? = some c := ⟨cs[k]'(by have := HN.out; omega), List.getElem?_eq_getElem _⟩
      obtain ⟨g, rfl, hg, hc⟩ := hr (by have := HN.out; omega)
      obtain ⟨A', c', h1, h2⟩ := hc k c ho
      have e0 := (bel.cell (p := ⟨g, k, none⟩) hg).trans h1
      have hok := HO.out.2 c (List.mem_of_getElem? ho)
      have HV := Lib.hid (conValidate_any A' c' c.length c wr (h2.below bel) rfl hok.1 (HT.out.below bel))
      have HB := Lib.hid bel
      obtain ⟨m, hm⟩ : ∃ m, c.length = m := ⟨_, rfl⟩
      rw [hm] at e0 HV
      clear hc h1 h2 ho hok bel hm
      go_wp2_with fail
      refine HV.out.mono ?_
      rintro e w1 ⟨rfl, hb1⟩
      have F := Lib.hid (HB.out.trans (hb1.mono HB.out.size))
      clear hb1
      go_wp2_with fail
      go_roundw
      case rel => exact ⟨k + 1, by omega, by go_num, F.out⟩
      case measure => simp [intOf]; omega
    · obtain rfl : k = n := by omega
      have F := Lib.hid bel
      clear bel
      go_wp2
      go_ret
      exact ⟨rfl, F.out⟩

set_option maxRecDepth 100000 in
theorem consEval_any (A : Option Addr) (cp n : Nat) (cs : List (List (List Tm))) (b tags : Nat) (htg : tags < 256) (w : World) (hr : ConsR w A cs) (hn : cs.length = n) (ho : OkS cs) (hT : TabP w) (hM : IsTags w b tags) :
    Calls Tryd.prog 26 #[.slice A n cp, .map (some b)] w fun e w' => e = .returned (.bool (cs.all (cv tags))) ∧ Below w.heap.size w w' := by
  have hn6 : n ≤ 4 := by have := ho.1; omega
  have HN := Lib.hid hn
  have HO := Lib.hid ho
  have HT := Lib.hid hT
  have HM := Lib.hid hM
  clear hn ho hT hM
  go_enter Tryd.func26, Tryd.ntmps26
  go_wp2_with fail
  go_loopw [5, 10] (fun r i wr => ∃ k : Nat, k ≤ n ∧ i = .int .i64 k ∧ r = .bool ((cs.take k).all (cv tags)) ∧ Below w.heap.size w wr) (fun _ i _ => n - (intOf i).toNat)
  case atStart => exact ⟨0, Nat.zero_le _, rfl, rfl, Below.refl _ _⟩
  case round =>
    obtain ⟨k, hk, rfl, rfl, bel⟩ := hrel
    by_cases hlt : k < n
    · obtain ⟨c, ho⟩ : ∃ c, cs[k]? = some c := ⟨cs[k]'(by have := HN.out; omega), List.getElem?_eq_getElem _⟩
      obtain ⟨g, rfl, hg, hc⟩ := hr (by have := HN.out; omega)
      obtain ⟨A', c', h1, h2⟩ := hc k c ho
      have e0 := (bel.cell (p := ⟨g, k, none⟩) hg).trans h1
      have hok := HO.out.2 c (List.mem_of_getElem? ho)
      have HV := Lib.hid (conEval_any A' c' c.length c b tags htg wr (h2.below bel) rfl hok.1 (HT.out.below bel) (HM.out.below bel))
      have HB := Lib.hid bel
      have HST : Hid (((cs.take (k + 1)).all (cv tags)) = ((cs.take k).all (cv tags) && cv tags c)) := Lib.hid (by rw [List.take_add_one, ho, List.all_append]; simp)
      obtain ⟨m, hm⟩ : ∃ m, c.length = m := ⟨_, rfl⟩
      rw [hm] at e0 HV
      clear hc h1 h2 ho hok bel hm
      cases hR : (cs.take k).all (cv tags) with
      | false =>
        rw [hR] at HST
        clear hR
        go_wp2_with fail
        exact ⟨⟨k + 1, by omega, by go_num, by rw [HST.out]; rfl, HB.out⟩, by simp [intOf]; omega⟩
      | true =>
        rw [hR] at HST
        clear hR
        go_wp2_with fail
        refine HV.out.mono ?_
        rintro e w1 ⟨rfl, hb1⟩
        have F := Lib.hid (HB.out.trans (hb1.mono HB.out.size))
        clear hb1
        go_wp2_with fail
        exact ⟨⟨k + 1, by omega, by go_num, by rw [HST.out]; rfl, F.out⟩, by simp [intOf]; omega⟩
    · obtain rfl : k = n := by omega
      have F := Lib.hid bel
      have hall : (cs.take k).all (cv tags) = cs.all (cv tags) := by rw [List.take_of_length_le (by rw [HN.out]; exact Nat.le_refl _)]
      rw [hall]
      clear bel hall
      go_wp2
      go_ret
      exact ⟨rfl, F.out⟩

/-- The constraints' texts, one behind the other. -/
def goS (cs : List (List (List Tm))) : List UInt8 := (cs.map goC).flatten
theorem goS_snoc (cs : List (List (List Tm))) (c : List (List Tm)) : goS (cs ++ [c]) = goS cs ++ goC c := by simp [goS]
theorem goC_len {c : List (List Tm)} (hc : OkC c) : (goC c).length ≤ 200 := by
  have := ct_len hc.1 (fun o ho => (hc.2 o ho).1.1)
  simp [goC]
  omega
theorem goS_len : ∀ (cs : List (List (List Tm))), (∀ c ∈ cs, OkC c) → (goS cs).length ≤ 200 * cs.length
  | [], _ => by simp [goS]
  | c :: r, h => by
    have h1 := goS_len r (fun x hx => h x (by simp [hx]))
    have h2 := goC_len (h c (by simp))
    simp [goS] at h1 ⊢
    omega

set_option maxRecDepth 100000 in
theorem consGo_any (A : Option Addr) (cp n : Nat) (cs : List (List (List Tm))) (w : World) (hr : ConsR w A cs) (hn : cs.length = n) (ho : OkS cs) :
    Calls Tryd.prog 25 #[.slice A n cp] w fun e w' => e = .returned (.string ⟨(goS cs).toArray⟩) ∧ Below w.heap.size w w' := by
  have hn6 : n ≤ 4 := by have := ho.1; omega
  have HN := Lib.hid hn
  have HO := Lib.hid ho
  clear hn ho
  go_enter Tryd.func25, Tryd.ntmps25
  go_wp2_with fail
  go_loopw [3, 8] (fun s i wr => ∃ (k : Nat) (S : ByteArray), k ≤ n ∧ i = .int .i64 k ∧ s = .string S ∧ Hid (S = ⟨(goS (cs.take k)).toArray⟩) ∧ S.size ≤ 1000 ∧ Below w.heap.size w wr) (fun _ i _ => n - (intOf i).toNat)
  case atStart => exact ⟨0, _, Nat.zero_le _, rfl, rfl, Lib.hid rfl, by decide, Below.refl _ _⟩
  case round =>
    obtain ⟨k, S, hk, rfl, rfl, HS, hS2, bel⟩ := hrel
    by_cases hlt : k < n
    · obtain ⟨c, ho⟩ : ∃ c, cs[k]? = some c := ⟨cs[k]'(by have := HN.out; omega), List.getElem?_eq_getElem _⟩
      obtain ⟨g, rfl, hg, hc⟩ := hr (by have := HN.out; omega)
      obtain ⟨A', c', h1, h2⟩ := hc k c ho
      have e0 := (bel.cell (p := ⟨g, k, none⟩) hg).trans h1
      have hok := HO.out.2 c (List.mem_of_getElem? ho)
      have hop : 0 < c.length := List.length_pos_iff.2 hok.2
      have HV := Lib.hid (conGo_any A' c' c.length c wr (h2.below bel) rfl hop hok.1)
      have HB := Lib.hid bel
      have hol := goC_len hok.1
      have hgl := goS_len (cs.take (k + 1)) (fun x hx => (HO.out.2 x (List.mem_of_mem_take hx)).1)
      have hst : goS (cs.take (k + 1)) = goS (cs.take k) ++ goC c := by rw [List.take_add_one, ho]; exact goS_snoc _ _
      obtain ⟨m, hm⟩ : ∃ m, c.length = m := ⟨_, rfl⟩
      rw [hm] at e0 HV
      obtain ⟨O, hO⟩ : ∃ O : ByteArray, ⟨(goC c).toArray⟩ = O := ⟨_, rfl⟩
      have hOs : O.size ≤ 200 := by rw [← hO]; simpa [ByteArray.size] using hol
      have HST : Hid (S ++ O = ⟨(goS (cs.take (k + 1))).toArray⟩ ∧ (S ++ O).size ≤ 1000) := Lib.hid (by
        have e : S ++ O = ⟨(goS (cs.take (k + 1))).toArray⟩ := by
          rw [HS.out, ← hO, hst]
          apply ByteArray.ext
          simp
        refine ⟨e, ?_⟩
        rw [e]
        have := List.length_take_le (k + 1) cs
        simp [ByteArray.size] at hgl ⊢
        omega)
      rw [hO] at HV
      clear hc h1 h2 ho hok bel hm hop hO hol hgl hst
      go_wp2_with fail
      refine HV.out.mono ?_
      rintro e w1 ⟨rfl, hb1⟩
      have F := Lib.hid (HB.out.trans (hb1.mono HB.out.size))
      clear hb1
      go_wp2_with fail
      exact ⟨⟨k + 1, _, by omega, by go_num, rfl, Lib.hid HST.out.1, HST.out.2, F.out⟩, by simp [intOf]; omega⟩
    · obtain rfl : k = n := by omega
      have F := Lib.hid bel
      have HE : Hid (S = ⟨(goS cs).toArray⟩) := Lib.hid (by rw [HS.out, List.take_of_length_le (by rw [HN.out]; exact Nat.le_refl _)])
      clear bel HS
      go_wp2
      go_ret
      exact ⟨by rw [HE.out]; rfl, F.out⟩

end Go.Proofs.YtjmmfhgdjndabaaRRDoor
