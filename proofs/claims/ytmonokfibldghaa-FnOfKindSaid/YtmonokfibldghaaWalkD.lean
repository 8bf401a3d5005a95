/- The walk of FnDiscard. Conditions: lengths as stated. -/
import Derived.Test.YtmonokfibldghaaWalkC
namespace Go.Proofs.Ytmonokfibldghaa
open Go.RowKit Go.Maps Pl

set_option maxHeartbeats 1000000 in
set_option maxRecDepth 100000 in
theorem fnDiscard_few (A : Option Addr) (n c : Nat) (ns : List Nat) (i : Nat) (hi : i < 4294967296) (w : World) (hl : IsL w A n ns) (h : n ≤ 1000) :
    Calls Try.prog 6 #[.slice A n c, .int .u32 (i : Int)] w fun e w' => e = .returned (.bool true) ∧ Below w.heap.size w w' := by
  have hd1 : decide (2147483647 < (n : Int)) = false := by simp; omega
  go_enter Try.func6, Try.ntmps6
  go_wp2_with fail
  refine (short_yes _ _ _ _ _ _ _ h (by decide)).mono ?_
  rintro e w' ⟨rfl, rfl⟩
  go_wp2_with fail
  refine (nonzero_any A n c ns _ hl.1 (by omega) hl.2.1 hl.2.2).mono ?_
  rintro e w1 ⟨v, rfl, hvn, hv, hb1⟩
  obtain ⟨g, cv, rfl, hgc, hg, hN, hNb, hNc⟩ := handed hv hvn hl.1 hl.2.1
  have hz1 := hb1.size
  clear hv hvn
  go_wp2_with fail
  refine (setOf_any g cv (ns.map nzN) n _ hN hgc hNb hg hNc).mono ?_
  rintro e w2 ⟨v1, v2, rfl, hn1, hn2, ha, hb, hb2⟩
  change OwnP 43 w2 w1.heap.size v1 (PS ns) at ha
  change OwnP 46 w2 w1.heap.size v2 (PS ns) at hb
  have hz2 := hb2.size
  clear hN hgc hNb hg hNc
  have hbel2 : Below w.heap.size w w2 := hb1.trans (hb2.mono hz1)
  clear hb1 hb2
  have hI := isL_one w2 i hi
  have ha2 := ha.alloc (.cells #[.int .u32 (i : Nat)] 38)
  have hb2 := hb.alloc (.cells #[.int .u32 (i : Nat)] 38)
  have hbel3 := hbel2.alloc hbel2.size (.cells #[.int .u32 (i : Nat)] 38)
  clear ha hb hbel2 hl hd1
  go_wp2_with fail
  refine (nonzero_any (some ⟨w2.heap.size, 0, none⟩) 1 1 [i] _ rfl (by decide) hI.2.1 hI.2.2).mono ?_
  rintro e w3 ⟨v, rfl, hvn, hv, hb3⟩
  obtain ⟨g, cv, rfl, hgc, hg, hN, hNb, hNc⟩ := handed hv hvn rfl hI.2.1
  have hz3 := hb3.size
  have ha3 := ha2.below hb3
  have hb3' := hb2.below hb3
  have hbel4 := hbel3.trans (hb3.mono hbel3.size)
  clear hv hvn ha2 hb2 hbel3 hb3 hI
  go_wp2_with fail
  refine (setOf_any g cv ([i].map nzN) 1 _ hN hgc hNb hg hNc).mono ?_
  rintro e w4 ⟨v3, v4, rfl, hn3, hn4, hx, hy, hb4⟩
  change OwnP 43 w4 w3.heap.size v3 (PS [i]) at hx
  change OwnP 46 w4 w3.heap.size v4 (PS [i]) at hy
  have hz4 := hb4.size
  have ha4 := ha3.below hb4
  have hb4' := hb3'.below hb4
  have hbel5 := hbel4.trans (hb4.mono hbel4.size)
  clear hN hgc hNb hg hNc ha3 hb3' hbel4 hb4
  obtain ⟨a, ha'⟩ : ∃ a, PS ns = a := ⟨_, rfl⟩
  have hba := bd_PS ns
  have hla := length_PS ns
  obtain ⟨pi, pm, hp⟩ := PS_one i
  have hbp := bd_PS [i]
  rw [ha'] at ha4 hb4' hba hla
  rw [hp] at hx hy hbp
  have hbi := (hbp (pi, pm) (by simp)).1
  have hbm := (hbp (pi, pm) (by simp)).2
  clear hp ha'
  obtain ⟨ga, ca, rfl, hca, _, hra⟩ := ha4.lay hn1
  obtain ⟨gb, cb, rfl, hcb, _, hrb⟩ := hb4'.lay hn2
  obtain ⟨gx, cx, ex, hcx, _, hrx⟩ := hx.lay hn3
  obtain ⟨gy, cy, ey, hcy, _, hry⟩ := hy.lay hn4
  change v3 = .slice (some ⟨gx, 0, none⟩) 1 cx at ex
  change v4 = .slice (some ⟨gy, 0, none⟩) 1 cy at ey
  subst ex ey
  obtain ⟨hx0, hx1, hgx⟩ := row_cells hrx
  obtain ⟨hy0, hy1, hgy⟩ := row_cells hry
  obtain ⟨ch, hch⟩ : ∃ ch, decide (¬ getL (setL a) pi &&& pm = 0) = ch := ⟨_, rfl⟩
  have HC := Lib.hid (setDisc_any w4.heap.size (some ⟨ga, 0, none⟩) a.length ca a pi pm ch w4.drew hra.drew (Nat.le_refl _) rfl (by omega) hba hbi hbm hch)
  have HT : Hid ((ch == (bits .and .u16 (pm : Int) ((hasm a pi : Nat) : Int) != 0)) = true) := Lib.hid (hch ▸ disc_changed hba hbm)
  have HS := Lib.hid (disc_sorted hba hbm hbi)
  clear hx hy ha4 hb4' hn1 hn2 hn3 hn4 hra
  go_wp2_with fail
  go_region_held3 (fun w' => w'.cell? ⟨gx, 0, none⟩ = some (.int .u32 pi) ∧ w'.cell? ⟨gx, 1, none⟩ = some (.int .u16 pm))
    (go_keep)
    ((first
      | (go_at_call 22; refine HC.out.mono ?_; rintro e w5 ⟨v5, rfl, h5, hb5⟩; have hb5' := below_of_drew hb5; have hc50 := (hb5'.cell (p := ⟨gx, 0, none⟩) hgx).trans hx0; have hc51 := (hb5'.cell (p := ⟨gx, 1, none⟩) hgx).trans hx1)))
  have hz5 : w4.heap.size ≤ w5.heap.size := hb5'.size
  have hrb5 := (hrb.below hb5').more hz5
  have hry5 := (hry.below hb5').more hz5
  rw [HS.out] at h5
  obtain ⟨A5, c5, e5, r5⟩ := h5.form
  subst e5
  have hy50 := (hb5'.cell (p := ⟨gy, 0, none⟩) hgy).trans hy0
  have hy51 := (hb5'.cell (p := ⟨gy, 1, none⟩) hgy).trans hy1
  have hbel6 := hbel5.trans (hb5'.mono hbel5.size)
  have hgy5 : gy < w5.heap.size := Nat.lt_of_lt_of_le hgy hz5
  have HLen : Hid ((lessL a [(pi, pm)]).length < 2147483648) := Lib.hid (by
    have h1 := length_lessL a [(pi, pm)]
    omega)
  have HLa : Hid (a.length < 2147483648) := Lib.hid (by omega)
  have HZ6 := Lib.hid hbel6.size
  have HC16 := Lib.hid (less_any w5.heap.size (some ⟨gb, 0, none⟩) a.length cb a (some ⟨gy, 0, none⟩) 1 cy [(pi, pm)] w5.drew hrb5.drew hry5.drew (Nat.le_refl _) rfl HLa.out hba rfl (by decide) hbp)
  clear hb5 hb5' hrb hry h5 hc50 hc51 hx0 hx1 hy0 hy1 hgx hgy hrx HC hbel5
  go_wp2_with fail
  go_region_held3 (fun w' => w'.cell? ⟨gy, 0, none⟩ = some (.int .u32 pi) ∧ w'.cell? ⟨gy, 1, none⟩ = some (.int .u16 pm))
    (go_keep)
    ((first
      | (go_at_call 16; refine HC16.out.mono ?_; rintro e w8 ⟨v8, rfl, h8, hb8a⟩; have hb8' := below_of_drew hb8a; obtain ⟨A8, c8, e8, r8⟩ := h8.form; subst e8; have hz8 := hb8'.size; have hc80 := (hb8'.cell (p := ⟨gy, 0, none⟩) hgy5).trans hy50; have hc81 := (hb8'.cell (p := ⟨gy, 1, none⟩) hgy5).trans hy51; have HR5 := Lib.hid ((r5.below hb8').more hz8); have HR8 := Lib.hid r8; have HRb8 := Lib.hid ((hrb5.below hb8').more hz8); clear h8 r8)
      | (go_at_call 20; refine (setIs_same w8.heap.size A5 (lessL a [(pi, pm)]).length c5 A8 c8 (lessL a [(pi, pm)]) w8 HR5.out HR8.out rfl HLen.out).mono ?_; rintro e w9 ⟨rfl, hb9⟩; have hc90 := (hb9.cell (p := ⟨gy, 0, none⟩) (Nat.lt_of_lt_of_le hgy5 hz8)).trans hc80; have hc91 := (hb9.cell (p := ⟨gy, 1, none⟩) (Nat.lt_of_lt_of_le hgy5 hz8)).trans hc81; have hz9 := hb9.size; have HRb := Lib.hid ((HRb8.out.below hb9).more hz9))
      | (go_at_call 21; refine (has_any w9.heap.size (some ⟨gb, 0, none⟩) a.length cb a pi w9 HRb.out (Nat.le_refl _) rfl HLa.out hba).mono ?_; rintro e w10 ⟨rfl, hb10⟩; have hc100 := (hb10.cell (p := ⟨gy, 0, none⟩) (Nat.lt_of_lt_of_le hgy5 (Nat.le_trans hz8 hz9))).trans hc90; have hc101 := (hb10.cell (p := ⟨gy, 1, none⟩) (Nat.lt_of_lt_of_le hgy5 (Nat.le_trans hz8 hz9))).trans hc91)))
  have HF := Lib.hid (hbel6.trans ((hb8'.mono HZ6.out).trans ((hb9.mono (Nat.le_trans HZ6.out hz8)).trans (hb10.mono (Nat.le_trans (Nat.le_trans HZ6.out hz8) hz9)))))
  clear hb8a hb8' hb9 hb10
  go_wp2
  go_ret
  exact ⟨by rw [HT.out]; rfl, HF.out⟩

theorem fnDiscard_all (A : Option Addr) (n c : Nat) (ns : List Nat) (i : Nat) (hi : i < 4294967296) (w : World) (hl : IsL w A n ns) :
    Calls Try.prog 6 #[.slice A n c, .int .u32 (i : Int)] w fun e w' => e = .returned (.bool true) ∧ Below w.heap.size w w' := by
  by_cases h : n ≤ 1000
  · exact fnDiscard_few A n c ns i hi w hl h
  · clear hl
    have hlong : 1000 < n ∨ 1000 < 0 := by omega
    clear h
    by_cases h1 : 2147483647 < n
    · have hd1 : decide (2147483647 < (n : Int)) = true := by simp; omega
      clear hlong
      go_enter Try.func6, Try.ntmps6
      go_wp2_with fail
      go_ret
      exact ⟨rfl, Below.refl _ _⟩
    · have hd1 : decide (2147483647 < (n : Int)) = false := by simp; omega
      go_enter Try.func6, Try.ntmps6
      go_wp2_with fail
      refine (short_no _ _ _ _ _ _ _ hlong).mono ?_
      rintro e w' ⟨rfl, rfl⟩
      go_wp2
      go_ret
      exact ⟨rfl, Below.refl _ _⟩

end Go.Proofs.Ytmonokfibldghaa
