/- The walk of FnAdd. Conditions: lengths as stated. -/
import Derived.Test.YtmonokfibldghaaWalkB
import Derived.BigQuiet
namespace Go.Proofs.Ytmonokfibldghaa
open Go.RowKit Go.Maps Pl

theorem isL_one (w : World) (i : Nat) (hi : i < 4294967296) : IsL (w.alloc (.cells #[.int .u32 (i : Nat)] 38)) (some ⟨w.heap.size, 0, none⟩) 1 [i] :=
  ⟨rfl, fun z hz => by simp at hz; omega, fun _ => ⟨_, 0, rfl, by simp, fun k z hk => by
    cases k with
    | zero => simp at hk; subst hk; simp
    | succ k => simp at hk⟩⟩
theorem PS_one (i : Nat) : ∃ pi pm, PS [i] = [(pi, pm)] := ⟨_, _, rfl⟩
theorem row_cells {w : World} {B g i m : Nat} (h : RowP w B (some ⟨g, 0, none⟩) [(i, m)]) : w.cell? ⟨g, 0, none⟩ = some (.int .u32 i) ∧ w.cell? ⟨g, 1, none⟩ = some (.int .u16 m) ∧ g < B := by
  obtain ⟨b, off, e, hb, hc⟩ := h (by simp)
  cases e
  have := hc 0 (i, m) rfl
  exact ⟨by simpa using this.1, by simpa using this.2, hb⟩
theorem add_sorted {a : PL} (ha : Bd a) {i m : Nat} (hi : i < 4294967296) (hm : m < 65536) : addL (setL a) i m = sortedL (a ++ [(i, m)]) := by
  rw [← setL_eq_sorted (bd_more ha hi hm), setL_snoc]

theorem add_changed {a : PL} (ha : Bd a) {i m : Nat} (hm : m < 65536) : (decide (¬ getL (setL a) i &&& m = m) == (bits .andNot .u16 (m : Int) ((hasm a i : Nat) : Int) != 0)) = true := by
  rw [andNot_u16 m (hasm a i) hm (hasm_lt ha i), get_setL ha]
  by_cases h : hasm a i &&& m = m
  · have := (andn_zero_iff m (hasm a i)).2 h
    simp [h, this]
  · have : ¬ andn m (hasm a i) = 0 := fun e => h ((andn_zero_iff m (hasm a i)).1 e)
    simp [h, this]
theorem disc_changed {a : PL} (ha : Bd a) {i m : Nat} (hm : m < 65536) : (decide (¬ getL (setL a) i &&& m = 0) == (bits .and .u16 (m : Int) ((hasm a i : Nat) : Int) != 0)) = true := by
  have hh := hasm_lt ha i
  rw [get_setL ha, Nat.and_comm]
  rw [u16_and_nat m (hasm a i) hm hh]
  by_cases h : m &&& hasm a i = 0
  · simp [h]
  · simp [h]
theorem disc_sorted {a : PL} (ha : Bd a) {i m : Nat} (hm : m < 65536) (hi : i < 4294967296) : discL (setL a) i m = lessL a [(i, m)] :=
  ok_ext (ok_disc (ok_setL ha) hi) (ok_lessL _ ha) fun j => by
    rw [get_disc (ok_setL ha).1, get_lessL, get_setL ha, get_setL ha]
    by_cases h : j = i
    · subst h; simp [hasm]
    · rw [if_neg h]
      have : hasm [(i, m)] j = 0 := by simp [hasm]; omega
      rw [this]; simp [andn]

set_option maxHeartbeats 1000000 in
set_option maxRecDepth 100000 in
theorem fnAdd_few (A : Option Addr) (n c : Nat) (ns : List Nat) (i : Nat) (hi : i < 4294967296) (w : World) (hl : IsL w A n ns) (h : n ≤ 1000) :
    Calls Try.prog 5 #[.slice A n c, .int .u32 (i : Int)] w fun e w' => e = .returned (.bool true) ∧ Below w.heap.size w w' := by
  have hd1 : decide (2147483647 < (n : Int)) = false := by simp; omega
  go_enter Try.func5, Try.ntmps5
  go_wp2_with fail
  refine (short_yes _ _ _ _ _ _ _ h (by decide)).mono ?_
  rintro e w' ⟨rfl, rfl⟩
  go_wp2_with fail
  refine (nonzero_any A n c ns _ hl.1 (by omega) hl.2.1 hl.2.2).mono ?_
  rintro e w1 ⟨v, rfl, hvn, hv, hb1⟩
  obtain ⟨g, cv, rfl, hgc, hg, hN, hNb, hNc⟩ := handed hv hvn hl.1 hl.2.1
  have hz1 := hb1.size
  clear hv hvn
  go_wp2_with fail
  refine (setOf_any g cv (ns.map nzN) n _ hN hgc hNb hg hNc).mono ?_
  rintro e w2 ⟨v1, v2, rfl, hn1, hn2, ha, hb, hb2⟩
  change OwnP 43 w2 w1.heap.size v1 (PS ns) at ha
  change OwnP 46 w2 w1.heap.size v2 (PS ns) at hb
  have hz2 := hb2.size
  clear hN hgc hNb hg hNc
  have hbel2 : Below w.heap.size w w2 := hb1.trans (hb2.mono hz1)
  clear hb1 hb2
  have hI := isL_one w2 i hi
  have ha2 := ha.alloc (.cells #[.int .u32 (i : Nat)] 38)
  have hb2 := hb.alloc (.cells #[.int .u32 (i : Nat)] 38)
  have hbel3 := hbel2.alloc hbel2.size (.cells #[.int .u32 (i : Nat)] 38)
  clear ha hb hbel2 hl hd1
  go_wp2_with fail
  refine (nonzero_any (some ⟨w2.heap.size, 0, none⟩) 1 1 [i] _ rfl (by decide) hI.2.1 hI.2.2).mono ?_
  rintro e w3 ⟨v, rfl, hvn, hv, hb3⟩
  obtain ⟨g, cv, rfl, hgc, hg, hN, hNb, hNc⟩ := handed hv hvn rfl hI.2.1
  have hz3 := hb3.size
  have ha3 := ha2.below hb3
  have hb3' := hb2.below hb3
  have hbel4 := hbel3.trans (hb3.mono hbel3.size)
  clear hv hvn ha2 hb2 hbel3 hb3 hI
  go_wp2_with fail
  refine (setOf_any g cv ([i].map nzN) 1 _ hN hgc hNb hg hNc).mono ?_
  rintro e w4 ⟨v3, v4, rfl, hn3, hn4, hx, hy, hb4⟩
  change OwnP 43 w4 w3.heap.size v3 (PS [i]) at hx
  change OwnP 46 w4 w3.heap.size v4 (PS [i]) at hy
  have hz4 := hb4.size
  have ha4 := ha3.below hb4
  have hb4' := hb3'.below hb4
  have hbel5 := hbel4.trans (hb4.mono hbel4.size)
  clear hN hgc hNb hg hNc ha3 hb3' hbel4 hb4
  obtain ⟨a, ha'⟩ : ∃ a, PS ns = a := ⟨_, rfl⟩
  have hba := bd_PS ns
  have hla := length_PS ns
  obtain ⟨pi, pm, hp⟩ := PS_one i
  have hbp := bd_PS [i]
  rw [ha'] at ha4 hb4' hba hla
  rw [hp] at hx hy hbp
  have hbi := (hbp (pi, pm) (by simp)).1
  have hbm := (hbp (pi, pm) (by simp)).2
  clear hp ha'
  obtain ⟨ga, ca, rfl, hca, _, hra⟩ := ha4.lay hn1
  obtain ⟨gb, cb, rfl, hcb, _, hrb⟩ := hb4'.lay hn2
  obtain ⟨gx, cx, ex, hcx, _, hrx⟩ := hx.lay hn3
  obtain ⟨gy, cy, ey, hcy, _, hry⟩ := hy.lay hn4
  change v3 = .slice (some ⟨gx, 0, none⟩) 1 cx at ex
  change v4 = .slice (some ⟨gy, 0, none⟩) 1 cy at ey
  subst ex ey
  obtain ⟨hx0, hx1, hgx⟩ := row_cells hrx
  obtain ⟨hy0, hy1, hgy⟩ := row_cells hry
  obtain ⟨ch, hch⟩ : ∃ ch, decide (¬ getL (setL a) pi &&& pm = pm) = ch := ⟨_, rfl⟩
  have HC := Lib.hid (setAdd_any w4.heap.size (some ⟨ga, 0, none⟩) a.length ca a pi pm ch w4.drew hra.drew (Nat.le_refl _) rfl (by omega) hba hbi hbm hch)
  have HT : Hid ((ch == (bits .andNot .u16 (pm : Int) ((hasm a pi : Nat) : Int) != 0)) = true) := Lib.hid (hch ▸ add_changed hba hbm)
  have HS := Lib.hid (add_sorted hba hbi hbm)
  clear hx hy ha4 hb4' hn1 hn2 hn3 hn4 hra
  go_wp2_with fail
  go_region_held3 (fun w' => w'.cell? ⟨gx, 0, none⟩ = some (.int .u32 pi) ∧ w'.cell? ⟨gx, 1, none⟩ = some (.int .u16 pm))
    (go_keep)
    ((first
      | (go_at_call 18; refine HC.out.mono ?_; rintro e w5 ⟨v5, rfl, h5, hb5⟩; have hb5' := below_of_drew hb5; have hc50 := (hb5'.cell (p := ⟨gx, 0, none⟩) hgx).trans hx0; have hc51 := (hb5'.cell (p := ⟨gx, 1, none⟩) hgx).trans hx1)))
  have hz5 : w4.heap.size ≤ w5.heap.size := hb5'.size
  have HE0 := Lib.hid (own_empty w5 w5 w5.heap.size 46 rfl (Nat.le_refl _))
  have HZ5 : Hid (w5.heap.size ≤ (w5.alloc (.cells #[] 46)).heap.size) := Lib.hid (by simp)
  have hrb5 := (hrb.below hb5').more hz5
  have hry5 := (hry.below hb5').more hz5
  have HB0 := Lib.hid (hrb5.alloc (.cells #[] 46) (Nat.le_refl _))
  have HY0 := Lib.hid (hry5.alloc (.cells #[] 46) (Nat.le_refl _))
  have HL0 := Lib.hid (show a.length < 4294967296 by omega)
  have HL1 := Lib.hid (show ([] ++ a).length < 4294967296 by simp; omega)
  obtain ⟨A5, c5, e5, r5⟩ := h5.form
  subst e5
  have hy50 := (hb5'.cell (p := ⟨gy, 0, none⟩) hgy).trans hy0
  have hy51 := (hb5'.cell (p := ⟨gy, 1, none⟩) hgy).trans hy1
  have hbel6 := hbel5.trans (hb5'.mono hbel5.size)
  have hgy5 : gy < w5.heap.size := Nat.lt_of_lt_of_le hgy hz5
  clear hb5 hb5' hrb hry h5 hc50 hc51 hx0 hx1 hy0 hy1 hgx hgy hrx HC hbel5
  go_wp2_with (first
    | (at_builtin; refine wpList_appP _ rfl (.tmp 44) (.tmp 45) 31 46 rfl Try.underlying31 info46 w5.heap.size (.slice (some ⟨w5.heap.size, 0, none⟩) 0 0) [] rfl HE0.out w5.heap.size (some ⟨gb, 0, none⟩) a a.length cb rfl rfl HB0.out (fun h => by cases h) (by decide) HL0.out HZ5.out ?_; intro v6 w6 h6 g6 _ _; have HZ6 := Lib.hid (Nat.le_trans HZ5.out g6.size); have HY1 := Lib.hid (HY0.out.grown g6 HZ5.out (fun q hq => by cases hq; exact Nat.le_refl _)); have H6 := Lib.hid h6; clear h6)
    | (at_builtin; refine wpList_appP _ rfl (.tmp 46) (.tmp 47) 31 46 rfl Try.underlying31 info46 w5.heap.size v6 ([] ++ a) rfl H6.out w5.heap.size (some ⟨gy, 0, none⟩) [(pi, pm)] 1 cy rfl rfl HY1.out (fun h => by cases h) HL1.out (by simp) HZ6.out ?_; intro v7 w7 h7 g7 _ _))
  have bel7 : Below w5.heap.size w5 w7 := (((Below.refl w5.heap.size w5).alloc (Nat.le_refl _) (.cells #[] 46)).grown g6 HZ5.out (fun q hq => by cases hq; exact Nat.le_refl _)).grown g7 HZ6.out H6.out.own_le
  rw [List.nil_append] at h7
  obtain ⟨A7, c7, e7, r7⟩ := h7.form
  subst e7
  have hz7 := bel7.size
  clear g6 g7 HE0 HZ5 HB0 HY0 HL0 HL1 HZ6 HY1 H6 h7
  refine (sorted_any w7.heap.size A7 (a ++ [(pi, pm)]).length c7 (a ++ [(pi, pm)]) _ r7 (Nat.le_refl _) rfl (by simp; omega) (bd_more hba hbi hbm)).mono ?_
  rintro e w8 ⟨v8, rfl, h8, hb8⟩
  rw [← HS.out] at h8
  obtain ⟨A8, c8, e8, r8⟩ := h8.form
  subst e8
  have hz8 := hb8.size
  have bel8 := bel7.trans (hb8.mono hz7)
  have hz58 := bel8.size
  have hbel9 := hbel6.trans (bel8.mono hbel6.size)
  have HR5 := Lib.hid (((r5.below bel8).more hz58).drew)
  have HR8 := Lib.hid r8.drew
  have hb9 := (hrb5.below bel8).more hz58
  have hy80 := (bel8.cell (p := ⟨gy, 0, none⟩) hgy5).trans hy50
  have hy81 := (bel8.cell (p := ⟨gy, 1, none⟩) hgy5).trans hy51
  have hgy8 : gy < w8.heap.size := Nat.lt_of_lt_of_le hgy5 hz58
  have HLen : Hid ((addL (setL a) pi pm).length < 2147483648) := Lib.hid (by
    have h1 := length_addL (setL a) pi pm
    have h2 := length_setL a
    omega)
  have HLa : Hid (a.length < 2147483648) := Lib.hid (by omega)
  have HZ9 := Lib.hid hbel9.size
  have HC20 := Lib.hid (setIs_same w8.heap.size A5 (addL (setL a) pi pm).length c5 A8 c8 (addL (setL a) pi pm) w8.drew HR5.out HR8.out rfl HLen.out)
  clear h8 hb8 bel7 bel8 r7 r5 r8 hrb5 hry5 hy50 hy51 hgy5
  go_wp2_with fail
  have tok : True := trivial
  go_region_held3 (fun w' => w'.cell? ⟨gy, 0, none⟩ = some (.int .u32 pi) ∧ w'.cell? ⟨gy, 1, none⟩ = some (.int .u16 pm))
    (go_keep)
    ((first
      | (go_at_call 20; refine HC20.out.mono ?_; rintro e w9 ⟨rfl, hb9a⟩; have hb9' := below_of_drew hb9a; have hc90 := (hb9'.cell (p := ⟨gy, 0, none⟩) hgy8).trans hy80; have hc91 := (hb9'.cell (p := ⟨gy, 1, none⟩) hgy8).trans hy81; have hz9 := hb9'.size; have HRb := Lib.hid ((hb9.below hb9').more hz9))
      | (go_at_call 21; refine (has_any w9.heap.size (some ⟨gb, 0, none⟩) a.length cb a pi w9 HRb.out (Nat.le_refl _) rfl HLa.out hba).mono ?_; rintro e w10 ⟨rfl, hb10⟩; have hc100 := (hb10.cell (p := ⟨gy, 0, none⟩) (Nat.lt_of_lt_of_le hgy8 hz9)).trans hc90; have hc101 := (hb10.cell (p := ⟨gy, 1, none⟩) (Nat.lt_of_lt_of_le hgy8 hz9)).trans hc91)))
  have HF := Lib.hid (hbel9.trans ((hb9'.mono HZ9.out).trans (hb10.mono (Nat.le_trans HZ9.out hz9))))
  clear hb9a hb9' hb10
  go_wp2
  go_ret
  exact ⟨by rw [HT.out]; rfl, HF.out⟩

theorem fnAdd_all (A : Option Addr) (n c : Nat) (ns : List Nat) (i : Nat) (hi : i < 4294967296) (w : World) (hl : IsL w A n ns) :
    Calls Try.prog 5 #[.slice A n c, .int .u32 (i : Int)] w fun e w' => e = .returned (.bool true) ∧ Below w.heap.size w w' := by
  by_cases h : n ≤ 1000
  · exact fnAdd_few A n c ns i hi w hl h
  · clear hl
    have hlong : 1000 < n ∨ 1000 < 0 := by omega
    clear h
    by_cases h1 : 2147483647 < n
    · have hd1 : decide (2147483647 < (n : Int)) = true := by simp; omega
      clear hlong
      go_enter Try.func5, Try.ntmps5
      go_wp2_with fail
      go_ret
      exact ⟨rfl, Below.refl _ _⟩
    · have hd1 : decide (2147483647 < (n : Int)) = false := by simp; omega
      go_enter Try.func5, Try.ntmps5
      go_wp2_with fail
      refine (short_no _ _ _ _ _ _ _ hlong).mono ?_
      rintro e w' ⟨rfl, rfl⟩
      go_wp2
      go_ret
      exact ⟨rfl, Below.refl _ _⟩

end Go.Proofs.Ytmonokfibldghaa
