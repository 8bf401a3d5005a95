/- The walk of FnOfKind. Conditions: lengths as stated. -/
import Derived.Test.YtmonokfibldghaaWalkF
namespace Go.Proofs.Ytmonokfibldghaa
open Go.RowKit Go.Maps Pl

theorem kind_test (p1 t : Nat) (hp : p1 < 4294967296) : (bits .and .u32 ((p1 : Int) / 256) 255 == (t : Int) % 4) = decide (p1 / 256 % 256 = t % 4) := by
  have h1 := u32_and_nat (p1 / 256) 255 (by omega) (by decide)
  have h2 : p1 / 256 &&& 255 = p1 / 256 % 256 := Nat.and_two_pow_sub_one_eq_mod (p1 / 256) 8
  rw [h2] at h1
  have h3 : (((p1 / 256 : Nat) : Nat) : Int) = (p1 : Int) / 256 := by omega
  rw [h3] at h1
  have h4 : bits .and .u32 ((p1 : Int) / 256) 255 = ((p1 / 256 % 256 : Nat) : Int) := h1
  rw [h4, Bool.eq_iff_iff, beq_iff_eq, decide_eq_true_iff]
  omega
theorem OwnP.read {e : TypeId} {w : World} {base : Nat} {A : Option Addr} {n c : Nat} {l : PL} (h : OwnP e w base (.slice A n c) l) : RowP w w.heap.size A l := by
  obtain ⟨A', c', e', r⟩ := h.form
  simp only [Value.slice.injEq] at e'
  rw [e'.1]; exact r
theorem kid_facts {k : Nat} (h : k < 4) : 524288 ≤ (k * 256 ||| 5046272) ∧ (k * 256 ||| 5046272) < 4294967296 ∧ (k * 256 ||| 5046272) / 256 % 256 = k := by
  rcases (by omega : k = 0 ∨ k = 1 ∨ k = 2 ∨ k = 3) with rfl | rfl | rfl | rfl <;> decide
/-- The pairs of a list whose register is of a kind. -/
def kindF (k : Nat) (a : PL) : PL := a.filter fun p => p.1 / 256 % 256 == k
theorem kindF_snoc (k : Nat) (a : PL) (p : Nat × Nat) : kindF k (a ++ [p]) = if p.1 / 256 % 256 = k then kindF k a ++ [p] else kindF k a := by
  unfold kindF
  rw [List.filter_append]
  by_cases h : p.1 / 256 % 256 = k <;> simp [h]
theorem bd_kindF {a : PL} (h : Bd a) (k : Nat) : Bd (kindF k a) := fun p hp => h p (List.mem_filter.1 hp).1
theorem hasm_kindF (k j : Nat) (a : PL) : hasm (kindF k a) j = if j / 256 % 256 = k then hasm a j else 0 := by
  induction a using snoc_ind with
  | h0 => simp [kindF, hasm]
  | h1 l x ih =>
    rw [kindF_snoc, hasm_snoc]
    by_cases h : x.1 / 256 % 256 = k
    · rw [if_pos h, hasm_snoc, ih]
      by_cases e : x.1 = j
      · subst e; simp [h]
      · simp [e]
    · rw [if_neg h, ih]
      by_cases e : x.1 = j
      · subst e; simp [h]
      · simp [e]
theorem kind_sorted {a : PL} (ha : Bd a) (k : Nat) : kindL k (setL a) = sortedL (kindF k a) :=
  ok_ext (ok_kindL (ok_setL ha) k) (ok_sortedL (bd_kindF ha k)) fun j => by rw [get_kindL (ok_setL ha).1, get_setL ha, get_sortedL, hasm_kindF]
theorem length_filter_insL (f : Nat × Nat → Bool) (x : Nat × Nat) : ∀ l : PL, ((insL x l).filter f).length = ((x :: l).filter f).length
  | [] => rfl
  | y :: r => by
    unfold insL
    split
    · rfl
    · have := length_filter_insL f x r
      simp only [List.filter_cons] at this ⊢
      cases hfx : f x <;> cases hfy : f y <;> simp [hfx] at this ⊢ <;> omega
theorem kind_more {a : PL} (ha : Bd a) (hlt : ∀ p ∈ a, p.1 < 524288) {i k : Nat} (hi : 524288 ≤ i) (hk : i / 256 % 256 = k) : (kindL k (setL (a ++ [(i, 1)]))).length = (sortedL (kindF k a)).length + 1 := by
  have hok := ok_setL ha
  have h0 : hasm a i = 0 := by
    have aux : ∀ l : PL, (∀ p ∈ l, p.1 < 524288) → hasm l i = 0 := by
      intro l
      induction l using snoc_ind with
      | h0 => intro _; rfl
      | h1 l x ih =>
        intro hl
        rw [hasm_snoc, if_neg (by have := hl x (by simp); omega)]
        exact ih fun p hp => hl p (by simp [hp])
    exact aux a hlt
  have hg : getL (setL a) i = 0 := by rw [get_setL ha, h0]
  have hd : delL (setL a) i = setL a := List.filter_eq_self.2 fun p hp => by
    have : p.1 ≠ i := fun e => by
      have := (has_iff_get hok.2.1 i).1 (e ▸ has_of_mem (v := p.2) hp)
      exact this hg
    simpa using this
  rw [← kind_sorted ha, setL_snoc]
  unfold addL
  rw [hg, if_neg (by simp), putL, hd]
  unfold kindL
  rw [length_filter_insL]
  simp [hk]

set_option maxHeartbeats 1000000 in
set_option maxRecDepth 100000 in
theorem fnOfKind_few (A : Option Addr) (n c : Nat) (ns : List Nat) (t : Nat) (ht : t ≤ 255) (w : World) (hl : IsL w A n ns) (h : n ≤ 1000) :
    Calls Try.prog 7 #[.slice A n c, .int .u8 (t : Int)] w fun e w' => e = .returned (.bool true) ∧ Below w.heap.size w w' := by
  have hd1 : decide (2147483647 < (n : Int)) = false := by simp; omega
  go_enter Try.func7, Try.ntmps7
  go_wp2_with fail
  refine (short_yes _ _ _ _ _ _ _ h (by decide)).mono ?_
  rintro e w' ⟨rfl, rfl⟩
  go_wp2_with fail
  refine (nonzero_any A n c ns _ hl.1 (by omega) hl.2.1 hl.2.2).mono ?_
  rintro e w1 ⟨v, rfl, hvn, hv, hb1⟩
  obtain ⟨g, cv, rfl, hgc, hg, hN, hNb, hNc⟩ := handed hv hvn hl.1 hl.2.1
  have hz1 := hb1.size
  clear hv hvn
  go_wp2_with fail
  refine (setOf_any g cv (ns.map nzN) n _ hN hgc hNb hg hNc).mono ?_
  rintro e w2 ⟨v1, v2, rfl, hn1, hn2, ha, hb, hb2⟩
  change OwnP 43 w2 w1.heap.size v1 (PS ns) at ha
  change OwnP 46 w2 w1.heap.size v2 (PS ns) at hb
  have hz2 := hb2.size
  clear hN hgc hNb hg hNc
  have hbel2 : Below w.heap.size w w2 := hb1.trans (hb2.mono hz1)
  clear hb1 hb2
  obtain ⟨a, ha'⟩ : ∃ a, PS ns = a := ⟨_, rfl⟩
  have hba := bd_PS ns
  have hla := length_PS ns
  have hlt := PS_fst_lt ns
  rw [ha'] at ha hb hba hla hlt
  clear ha'
  obtain ⟨ga, ca, rfl, hca, _, hra⟩ := ha.lay hn1
  obtain ⟨gb, cb, rfl, hcb, _, hrb⟩ := hb.lay hn2
  obtain ⟨k4, hk4⟩ : ∃ k4, t % 4 = k4 := ⟨_, rfl⟩
  have hk4' : k4 < 4 := by omega
  have hO := own_empty w2 w2 w2.heap.size 46 rfl (Nat.le_refl _)
  have HOa := Lib.hid ha
  have hgb := hb.own_le gb rfl
  have HA := Lib.hid (show gb < w2.heap.size from (World.ownsRow.lt hb gb rfl).2)
  clear ha hb hl hd1
  go_wp2_with fail
  go_loopw [7, 26] (fun v i wr => ∃ k : Nat, k ≤ a.length ∧ i = .int .i64 k ∧ OwnP 46 wr w2.heap.size v (kindF k4 (a.take k)) ∧ Below w2.heap.size w2 wr) (fun _ i _ => a.length - (intOf i).toNat)
  case atStart => exact ⟨0, Nat.zero_le _, rfl, hO, (Below.refl _ _).alloc (Nat.le_refl _) _⟩
  case round =>
    obtain ⟨k, hk, rfl, ho, hnx⟩ := hrel
    by_cases hlt' : k < a.length
    · obtain ⟨p, hp⟩ : ∃ p, a[k]? = some p := ⟨a[k]'(by omega), List.getElem?_eq_getElem (by omega)⟩
      obtain ⟨blk, off, eb, hblk, hcs⟩ := hrb (by omega)
      cases eb
      have hc := hcs k p hp
      have hc0 := (hnx.cell (p := ⟨gb, 0 + k * 2, none⟩) HA.out).trans hc.1
      have hc1 := (hnx.cell (p := ⟨gb, 0 + k * 2 + 1, none⟩) HA.out).trans hc.2
      obtain ⟨p1, p2⟩ := p
      simp only [Nat.zero_add] at hc0 hc1
      have hpb := hba (p1, p2) (List.mem_of_getElem? hp)
      have hts := kind_test p1 t hpb.1
      rw [hk4] at hts
      have HT := Lib.hid (take_snoc hp)
      have hzn := hnx.size
      have HB1 := Lib.hid ((hnx.alloc hzn (.cells #[.int .u32 p1, .int .u16 p2] 46)).alloc (by simp; omega) (.cells #[.int .u32 p1, .int .u16 p2] 46))
      have HB0 := Lib.hid (hnx.alloc hzn (.cells #[.int .u32 p1, .int .u16 p2] 46))
      clear hcs hc hra hrb hp
      by_cases hkt : p1 / 256 % 256 = k4
      · rw [decide_eq_true hkt] at hts
        have HK := Lib.hid hkt
        have HX : Hid (RowP ((wr.alloc (.cells #[.int .u32 p1, .int .u16 p2] 46)).alloc (.cells #[.int .u32 p1, .int .u16 p2] 46)) (wr.heap.size + 1 + 1) (some ⟨wr.heap.size + 1, 0, none⟩) [(p1, p2)]) := Lib.hid (by simpa using row_one (wr.alloc (.cells #[.int .u32 p1, .int .u16 p2] 46)) 46 p1 p2)
        have HL : Hid ((kindF k4 (a.take k)).length < 4294967296) := Lib.hid (by
          have h1 : (kindF k4 (a.take k)).length ≤ (a.take k).length := List.length_filter_le _ _
          rw [List.length_take] at h1; omega)
        have HZ : Hid (w2.heap.size ≤ ((wr.alloc (.cells #[.int .u32 p1, .int .u16 p2] 46)).alloc (.cells #[.int .u32 p1, .int .u16 p2] 46)).heap.size) := Lib.hid (by simp; omega)
        clear hkt
        go_wp2_with (at_builtin; refine wpList_appP _ rfl (.tmp 38) (.tmp 40) 31 46 rfl Try.underlying31 info46 w2.heap.size u7 (kindF k4 (a.take k)) rfl ((ho.alloc _).alloc _) (wr.heap.size + 1 + 1) (some ⟨wr.heap.size + 1, 0, none⟩) [(p1, p2)] 1 1 rfl rfl HX.out (fun h => by cases h) HL.out (by simp) HZ.out ?_; intro v1 w3 h1 g1 _ _)
        have F1 := Lib.hid (show OwnP 46 w3 w2.heap.size v1 (kindF k4 (a.take (k + 1))) by rw [HT.out, kindF_snoc, if_pos HK.out]; exact h1)
        have F2 := Lib.hid (HB1.out.grown g1 HZ.out ho.own_le)
        clear h1 g1
        go_roundw
        case rel => exact ⟨k + 1, by omega, by go_num, F1.out, F2.out⟩
        case measure => simp [intOf]; omega
      · rw [decide_eq_false hkt] at hts
        have HK := Lib.hid hkt
        have F1 := Lib.hid (show OwnP 46 (wr.alloc (.cells #[.int .u32 p1, .int .u16 p2] 46)) w2.heap.size u7 (kindF k4 (a.take (k + 1))) by rw [HT.out, kindF_snoc, if_neg hkt]; exact ho.alloc _)
        clear hkt
        go_wp2
        go_roundw
        case rel => exact ⟨k + 1, by omega, by go_num, F1.out, HB0.out⟩
        case measure => simp [intOf]; omega
    · have hke : k = a.length := by omega
      subst hke
      rw [List.take_length] at ho
      have hk4i : (t : Int) % 4 = (k4 : Int) := by omega
      have hzn := hnx.size
      have hbelR := hbel2.trans (hnx.mono hbel2.size)
      have HOa' := Lib.hid (HOa.out.below hnx)
      have HRa := Lib.hid ((hra.below hnx).more hzn)
      have HF := Lib.hid ho
      obtain ⟨k1, k2, k3⟩ := kid_facts hk4'
      obtain ⟨idn, hid⟩ : ∃ idn, (k4 * 256 ||| 5046272) = idn := ⟨_, rfl⟩
      have hbits : bits .or .u32 ((k4 : Int) * 256) 5046272 = (idn : Int) := by
        have := u32_or_nat (k4 * 256) 5046272 (by omega) (by decide)
        rw [hid] at this
        rw [← this]; congr 1
      rw [hid] at k1 k2 k3
      have HM := Lib.hid (kind_more hba hlt k1 k3)
      have hbm := bd_more hba k2 (show 1 < 65536 by decide)
      have hlk := length_sortedL (kindF k4 a)
      have hlf : (kindF k4 a).length ≤ a.length := List.length_filter_le _ _
      have HKS := Lib.hid (kind_sorted hba k4)
      obtain ⟨A7, c7, e7, _⟩ := HF.out.form
      subst e7
      have HRa1 := Lib.hid (HRa.out.alloc (.cells #[.int .u32 idn, .int .u16 1] 43) (Nat.le_refl _))
      have HF1 := Lib.hid (HF.out.alloc (.cells #[.int .u32 idn, .int .u16 1] 43))
      have HO1 := Lib.hid (HOa'.out.alloc (.cells #[.int .u32 idn, .int .u16 1] 43))
      have HB1 := Lib.hid (hbelR.alloc hbelR.size (.cells #[.int .u32 idn, .int .u16 1] 43))
      have HZ1 : Hid (wr.heap.size ≤ (wr.alloc (.cells #[.int .u32 idn, .int .u16 1] 43)).heap.size) := Lib.hid (by simp)
      have HLT : Hid (wr.heap.size < (wr.alloc (.cells #[.int .u32 idn, .int .u16 1] 43)).heap.size) := Lib.hid (by simp)
      have HN := Lib.hid (new_cells wr idn 1 43)
      clear ho hra hrb hnx HOa hid k1 hlt
      clear HRa HF HOa'
      go_wp2_with fail
      refine (setOfKind_any wr.heap.size (some ⟨ga, 0, none⟩) a.length ca a k4 _ HRa1.out HZ1.out rfl (by omega) hba (by omega)).mono ?_
      rintro e w4 ⟨v4, rfl, h4, hb4⟩
      rw [HKS.out] at h4
      obtain ⟨A4, c4, e4, r4⟩ := h4.form
      subst e4
      have HF4 := Lib.hid (HF1.out.below hb4)
      have HO4 := Lib.hid (HO1.out.below hb4)
      have HB4 := Lib.hid (HB1.out.trans (hb4.mono HB1.out.size))
      have HN40 := Lib.hid ((hb4.cell (p := ⟨wr.heap.size, 0, none⟩) HLT.out).trans HN.out.1)
      have HN41 := Lib.hid ((hb4.cell (p := ⟨wr.heap.size, 1, none⟩) HLT.out).trans HN.out.2)
      have HLT4 := Lib.hid (Nat.lt_of_lt_of_le HLT.out hb4.size)
      clear h4 hb4
      go_wp2_with fail
      refine (sorted_any w4.heap.size A7 (kindF k4 a).length c7 (kindF k4 a) _ HF4.out.read (Nat.le_refl _) rfl (by omega) (bd_kindF hba k4)).mono ?_
      rintro e w5 ⟨v5, rfl, h5, hb5⟩
      obtain ⟨A5, c5, e5, r5⟩ := h5.form
      subst e5
      have hz5 := hb5.size
      have r45 := (r4.below hb5).more hz5
      have HF5 := Lib.hid (HF4.out.below hb5)
      have HO5 := Lib.hid (HO4.out.below hb5)
      have HB5 := Lib.hid (HB4.out.trans (hb5.mono HB4.out.size))
      have HN50 := Lib.hid ((hb5.cell (p := ⟨wr.heap.size, 0, none⟩) HLT4.out).trans HN40.out)
      have HN51 := Lib.hid ((hb5.cell (p := ⟨wr.heap.size, 1, none⟩) HLT4.out).trans HN41.out)
      have HLT5 := Lib.hid (Nat.lt_of_lt_of_le HLT4.out hz5)
      clear h5 hb5 r4
      go_wp2_with fail
      refine (setIs_same w5.heap.size A4 (sortedL (kindF k4 a)).length c4 A5 c5 (sortedL (kindF k4 a)) w5 r45 r5 rfl (by omega)).mono ?_
      rintro e w6 ⟨rfl, hb6⟩
      have hz6 := hb6.size
      have HF6 := Lib.hid ((HF5.out.below hb6).alloc (.cells #[.int .u32 idn, .int .u16 1] 43))
      have HO6 := Lib.hid ((HO5.out.below hb6).alloc (.cells #[.int .u32 idn, .int .u16 1] 43))
      have HB6' := HB5.out.trans (hb6.mono HB5.out.size)
      have HB6 := Lib.hid (HB6'.alloc HB6'.size (.cells #[.int .u32 idn, .int .u16 1] 43))
      have hn60 := (hb6.cell (p := ⟨wr.heap.size, 0, none⟩) HLT5.out).trans HN50.out
      have hn61 := (hb6.cell (p := ⟨wr.heap.size, 1, none⟩) HLT5.out).trans HN51.out
      have HX := Lib.hid (row_one w6 43 idn 1)
      have HL0 := Lib.hid (show a.length < 4294967296 by omega)
      have HZ6 : Hid (w1.heap.size ≤ (w6.alloc (.cells #[.int .u32 idn, .int .u16 1] 43)).heap.size) := Lib.hid (by
        have h1 := (HO5.out.below hb6)
        have h2 := (World.ownsRow.lt h1 ga rfl)
        simp; omega)
      clear hb6 r45 r5 HB6'
      go_wp2_with (at_builtin; refine wpList_appG _ (by rfl) (.tmp 58) (.tmp 60) 30 43 rfl Try.underlying30 info43 w1.heap.size (.slice (some ⟨ga, 0, none⟩) a.length ca) a rfl HO6.out (w6.heap.size + 1) (some ⟨w6.heap.size, 0, none⟩) [(idn, 1)] 1 1 rfl rfl HX.out (fun h => by cases h) HL0.out (by simp) HZ6.out ?_; intro v7 w7 h7 g7 _ _)
      have hlm : (a ++ [(idn, 1)]).length = a.length + 1 := by simp
      have HB7 := Lib.hid (HB6.out.grown g7 HB6.out.size (fun q hq => Nat.le_trans hz1 (HO6.out.own_le q hq)))
      have HF7 := Lib.hid (HF6.out.kept g7 (own_apart HF6.out HO6.out (by decide)))
      obtain ⟨A8, c8, e8, r8⟩ := h7.form
      subst e8
      have HL8 : Hid ((a ++ [(idn, 1)]).length < 2147483648) := Lib.hid (by omega)
      clear h7 g7 hn60 hn61 hlm
      have HC := setOfKind_any w7.heap.size A8 (a ++ [(idn, 1)]).length c8 (a ++ [(idn, 1)]) k4 w7 r8 (Nat.le_refl _) rfl HL8.out hbm (by omega)
      refine HC.mono ?_
      rintro e w8 ⟨v8, rfl, h8, hb8⟩
      obtain ⟨A9, c9, e9, _⟩ := h8.form
      subst e9
      have HF8 := Lib.hid (HF7.out.below hb8)
      have HB8 := Lib.hid (HB7.out.trans (hb8.mono HB7.out.size))
      clear HC h8 hb8 r8
      go_wp2_with fail
      have HC := sorted_any w8.heap.size A7 (kindF k4 a).length c7 (kindF k4 a) w8 HF8.out.read (Nat.le_refl _) rfl (by omega) (bd_kindF hba k4)
      refine HC.mono ?_
      rintro e w9 ⟨v9, rfl, h9, hb9⟩
      obtain ⟨A10, c10, e10, _⟩ := h9.form
      subst e10
      have HB9 := Lib.hid (HB8.out.trans (hb9.mono HB8.out.size))
      have hlen : ((kindL k4 (setL (a ++ [(idn, 1)]))).length : Int) = ((sortedL (kindF k4 a)).length : Int) + 1 := by rw [HM.out]; simp
      clear HC h9 hb9
      go_wp2
      go_ret
      exact ⟨rfl, HB9.out⟩

theorem fnOfKind_all (A : Option Addr) (n c : Nat) (ns : List Nat) (t : Nat) (ht : t ≤ 255) (w : World) (hl : IsL w A n ns) :
    Calls Try.prog 7 #[.slice A n c, .int .u8 (t : Int)] w fun e w' => e = .returned (.bool true) ∧ Below w.heap.size w w' := by
  by_cases h : n ≤ 1000
  · exact fnOfKind_few A n c ns t ht w hl h
  · clear hl
    have hlong : 1000 < n ∨ 1000 < 0 := by omega
    clear h
    by_cases h1 : 2147483647 < n
    · have hd1 : decide (2147483647 < (n : Int)) = true := by simp; omega
      clear hlong
      go_enter Try.func7, Try.ntmps7
      go_wp2_with fail
      go_ret
      exact ⟨rfl, Below.refl _ _⟩
    · have hd1 : decide (2147483647 < (n : Int)) = false := by simp; omega
      go_enter Try.func7, Try.ntmps7
      go_wp2_with fail
      refine (short_no _ _ _ _ _ _ _ hlong).mono ?_
      rintro e w' ⟨rfl, rfl⟩
      go_wp2
      go_ret
      exact ⟨rfl, Below.refl _ _⟩

end Go.Proofs.Ytmonokfibldghaa
