/- The walk of FnEqual: true, whatever the input; nothing that was there is written. Conditions: none. -/
import Derived.Test.YtmonokfibldghaaArgs
import Derived.Test.YtmonokfibldghaaLess
import Derived.Deep.RegionLaw
import Derived.Deep.RegionHeld3
namespace Go.Proofs.Ytmonokfibldghaa
open Go.RowKit Go.Maps Pl

theorem RowP.front {w : World} {B : Nat} {A : Option Addr} {l : PL} (h : RowP w B A l) (k : Nat) : RowP w B A (l.take k) := fun hn => by
  rw [List.length_take] at hn
  obtain ⟨b, off, e, hb, hc⟩ := h (by omega)
  refine ⟨b, off, e, hb, fun j p hp => ?_⟩
  rw [List.getElem?_take] at hp
  split at hp
  · exact hc j p hp
  · cases hp
theorem RowP.grown {w w' : World} {B : Nat} {A : Option Addr} {l : PL} {row : Option Nat} (h : RowP w B A l) (hg : w.grownBy w' row) (hB : B ≤ w.heap.size) (hr : ∀ g, row = some g → B ≤ g) : RowP w' B A l :=
  h.keep fun p hp => World.cell?_of_block (hg.block p.block (by omega) (fun e => by have := hr _ e.symm; omega))
theorem row9 {w9 : World} {base kk : Nat} {v9 : Value} {a : PL} (h9 : OwnP 43 w9 base v9 (([] ++ a.drop kk) ++ a.take kk)) (hv : v9 ≠ .slice none 0 0) (hk : kk ≤ a.length) :
    ∃ gg c9, v9 = .slice (some ⟨gg, 0, none⟩) a.length c9 ∧ RowP w9 w9.heap.size (some ⟨gg, 0, none⟩) (a.drop kk ++ a.take kk) := by
  rw [List.nil_append] at h9
  obtain ⟨gg, c9, e, hr⟩ := h9.row hv
  refine ⟨gg, c9, ?_, hr⟩
  rw [e]; congr 1; simp; omega
theorem row9z {w9 : World} {base : Nat} {v9 : Value} {a : PL} (h9 : OwnP 43 w9 base v9 (([] ++ a.drop 0) ++ a.take 0)) (hv : v9 ≠ .slice none 0 0) (h0 : a.length = 0) :
    ∃ gg c9, v9 = .slice (some ⟨gg, 0, none⟩) 0 c9 ∧ RowP w9 w9.heap.size (some ⟨gg, 0, none⟩) (a.drop 0 ++ a.take 0) := by
  obtain ⟨gg, c9, e, hr⟩ := row9 h9 hv (by omega)
  exact ⟨gg, c9, by rw [e, h0], hr⟩
theorem OwnP.lay0 {e : TypeId} {w : World} {base : Nat} {v : Value} {l : PL} (h : OwnP e w base v l) (hv : v ≠ .slice none 0 0) (h0 : l.length = 0) : ∃ g c, v = .slice (some ⟨g, 0, none⟩) 0 c ∧ RowP w w.heap.size (some ⟨g, 0, none⟩) l := by
  obtain ⟨g, c, e1, _, _, hr⟩ := h.lay hv
  exact ⟨g, c, by rw [e1, h0], hr⟩
theorem row_off0 {w : World} {B g : Nat} {l : PL} (h : RowP w B (some ⟨g, 0, none⟩) l) : RowP w B (some ⟨g, 0, none⟩) (l.drop 0) := by simpa using h
theorem row_off {w : World} {B g : Nat} {l : PL} (h : RowP w B (some ⟨g, 0, none⟩) l) (k : Nat) : RowP w B (some ⟨g, k * 2, none⟩) (l.drop k) := by simpa using h.back k
/-- A list turned is the same set. -/
theorem setL_turned {a : PL} (h : Bd a) (k : Nat) : setL a = setL (a.drop k ++ a.take k) := by
  have hb : Bd (a.drop k ++ a.take k) := fun p hp => by
    rcases List.mem_append.1 hp with h1 | h1
    · exact h p (List.mem_of_mem_drop h1)
    · exact h p (List.mem_of_mem_take h1)
  rw [setL_congr h hb]
  intro i
  rw [hasm_append, Nat.or_comm, ← hasm_append, List.take_append_drop]
theorem bd_turned {a : PL} (h : Bd a) (k : Nat) : Bd (a.drop k ++ a.take k) := fun p hp => by
  rcases List.mem_append.1 hp with h1 | h1
  · exact h p (List.mem_of_mem_drop h1)
  · exact h p (List.mem_of_mem_take h1)
theorem below_of_drew {B : Nat} {w w' : World} (h : Below B w.drew w') : Below B w w' := ⟨h.os, h.tape, h.output, h.size, h.block⟩

set_option maxHeartbeats 2000000 in
set_option maxRecDepth 100000 in
theorem equal_none (A : Option Addr) (n c : Nat) (ns : List Nat) (A' : Option Addr) (n' c' : Nat) (ms : List Nat) (t : Nat) (w : World) (hl : IsL w A n ns) (hm : IsL w A' n' ms) (h : n ≤ 1000) (h' : n' ≤ 1000) (h0 : (PS ns).length = 0) :
    Calls Try.prog 4 #[.slice A n c, .slice A' n' c', .int .u8 (t : Int)] w fun e w' => e = .returned (.bool true) ∧ Below w.heap.size w w' := by
  have hd1 : decide (2147483647 < (n : Int)) = false := by simp; omega
  have hd2 : decide (2147483647 < (n' : Int)) = false := by simp; omega
  go_enter Try.func4, Try.ntmps4
  go_wp2_with fail
  refine (short_yes _ _ _ _ _ _ _ h h').mono ?_
  rintro e w' ⟨rfl, rfl⟩
  go_wp2_with fail
  refine (nonzero_any A n c ns _ hl.1 (by omega) hl.2.1 hl.2.2).mono ?_
  rintro e w1 ⟨v, rfl, hvn, hv, hb1⟩
  obtain ⟨g, cv, rfl, hgc, hg, hN, hNb, hNc⟩ := handed hv hvn hl.1 hl.2.1
  have hm1 := hm.keep hb1
  have hz1 := hb1.size
  clear hv hvn
  go_wp2_with fail
  refine (setOf_any g cv (ns.map nzN) n _ hN hgc hNb hg hNc).mono ?_
  rintro e w2 ⟨v1, v2, rfl, hn1, hn2, ha, hb, hb2⟩
  change OwnP 43 w2 w1.heap.size v1 (PS ns) at ha
  change OwnP 46 w2 w1.heap.size v2 (PS ns) at hb
  have hz2 := hb2.size
  have hm2 := hm1.keep hb2
  clear hN hgc hNb hg hNc
  go_wp2_with fail
  refine (nonzero_any A' n' c' ms _ hm.1 (by omega) hm2.2.1 hm2.2.2).mono ?_
  rintro e w3 ⟨v, rfl, hvn, hv, hb3⟩
  obtain ⟨g, cv, rfl, hgc, hg, hN, hNb, hNc⟩ := handed hv hvn hm.1 hm.2.1
  have hz3 := hb3.size
  clear hv hvn
  go_wp2_with fail
  refine (setOf_any g cv (ms.map nzN) n' _ hN hgc hNb hg hNc).mono ?_
  rintro e w4 ⟨v3, v4, rfl, hn3, hn4, hx, hy, hb4⟩
  change OwnP 43 w4 w3.heap.size v3 (PS ms) at hx
  change OwnP 46 w4 w3.heap.size v4 (PS ms) at hy
  have hz4 := hb4.size
  clear hN hgc hNb hg hNc
  have ha4 := (ha.below hb3).below (hb4.mono (Nat.le_refl _))
  have hb4' := (hb.below hb3).below (hb4.mono (Nat.le_refl _))
  have hbel : Below w.heap.size w w4 := ((hb1.trans (hb2.mono hz1)).trans (hb3.mono (by omega))).trans (hb4.mono (by omega))
  obtain ⟨a, ha'⟩ : ∃ a, PS ns = a := ⟨_, rfl⟩
  obtain ⟨b, hb'⟩ : ∃ b, PS ms = b := ⟨_, rfl⟩
  have hba := bd_PS ns
  have hla := length_PS ns
  have hbb := bd_PS ms
  have hlb := length_PS ms
  rw [ha'] at ha4 hb4' hba hla h0
  rw [hb'] at hx hy hbb hlb
  clear ha hb ha' hb' hb1 hb2 hb3 hb4 hm hm1 hm2 hl hd1 hd2
  obtain ⟨ga, ca, rfl, hra⟩ := ha4.lay0 hn1 h0
  obtain ⟨gb, cb, rfl, hrb⟩ := hb4'.lay0 hn2 h0
  obtain ⟨gx, cx, rfl, hcx, _, hrx⟩ := hx.lay hn3
  obtain ⟨gy, cy, rfl, hcy, _, hry⟩ := hy.lay hn4
  have H0 := Lib.hid h0
  clear h0
  go_wp2_with fail
  refine (less_any w4.heap.size (some ⟨gb, 0, none⟩) 0 cb a (some ⟨gy, 0, none⟩) b.length cy b _ hrb hry (Nat.le_refl _) H0.out (by decide) hba rfl (by omega) hbb).mono ?_
  rintro e w5 ⟨v5, rfl, h5, hb5⟩
  obtain ⟨A5, c5, e5, _⟩ := h5.form
  subst e5
  have hz5 := hb5.size
  go_wp2_with fail
  refine (less_any w5.heap.size (some ⟨gy, 0, none⟩) b.length cy b (some ⟨gb, 0, none⟩) 0 cb a _ ((hry.below hb5).more hz5) ((hrb.below hb5).more hz5) (Nat.le_refl _) rfl (by omega) hbb H0.out (by decide) hba).mono ?_
  rintro e w6 ⟨v6, rfl, h6, hb6⟩
  obtain ⟨A6, c6, e6, _⟩ := h6.form
  subst e6
  have hz6 := hb6.size
  have l5 := length_lessL a b
  have l6 := length_lessL b a
  have hbel6 : Below w.heap.size w w6 := (hbel.trans (hb5.mono (by omega))).trans (hb6.mono (by omega))
  obtain ⟨q, hq⟩ : ∃ q, decide (setL a = setL b) = q := ⟨_, rfl⟩
  have hone : ((((lessL a b).length : Int) + ((lessL b a).length : Int)) == 0) = q := by
    rw [← hq, Bool.eq_iff_iff, beq_iff_eq, decide_eq_true_iff, same_iff hba hbb]; omega
  have hra6 := ((hra.below hb5).below (hb6.mono hz5)).more (Nat.le_trans hz5 hz6)
  have hrx6 := ((hrx.below hb5).below (hb6.mono hz5)).more (Nat.le_trans hz5 hz6)
  clear h5 h6 hb5 hb6 hra hrb hrx hry ha4 hb4' hx hy
  go_wp2_with fail
  have HTurn := Lib.hid (decide_eq_true (setL_turned hba 0))
  have HTb := Lib.hid (bd_turned hba 0)
  have HTl : Hid ((a.drop 0 ++ a.take 0).length = 0) := Lib.hid (by rw [List.length_append, List.length_drop, List.length_take]; have := H0.out; omega)
  have hz0 : w.heap.size ≤ w6.heap.size := hbel6.size
  have HM := Lib.hid (show 0 = (a.drop 0).length by rw [List.length_drop, H0.out])
  have HM2 := Lib.hid (show 0 = (a.take 0).length by simp)
  have HD := Lib.hid (show (a.drop 0).length < 4294967296 by simp; omega)
  have HD2 := Lib.hid (show (a.take 0).length < 4294967296 by simp)
  have HD3 := Lib.hid (show ([] ++ a.drop 0).length < 4294967296 by simp; omega)
  have HAl : Hid (0 < 2147483648) := Lib.hid (by decide)
  have tok1 : True := trivial
  have tok2 : True := trivial
  have HC1 := Lib.hid (setEqual_any w6.heap.size (some ⟨ga, 0, none⟩) 0 ca a (some ⟨gx, 0, none⟩) b.length cx b w6.drew hra6.drew hrx6.drew (Nat.le_refl _) H0.out (by decide) hba rfl (by omega) hbb)
  go_region_held3 (fun _ => True) (trivial)
    ((first
      | (go_at_call 17; have _t := tok1; refine HC1.out.mono ?_; rintro e w7 ⟨rfl, hb7⟩; have hb7' := below_of_drew hb7; have hz7 := hb7'.size; have hra7 := (hra6.below hb7').more hz7; have HO7 := Lib.hid (own_empty w7 w7 w.heap.size 43 rfl (by omega)); have HR7 := Lib.hid ((row_off0 hra7).alloc (.cells #[] 43) (Nat.le_refl _)); have HR7' := Lib.hid ((hra7.front 0).alloc (.cells #[] 43) (Nat.le_refl _)); have HB7 : Hid (w.heap.size ≤ (w7.alloc (.cells #[] 43)).heap.size) := Lib.hid (by simp; omega); have HZ7 : Hid (w7.heap.size ≤ (w7.alloc (.cells #[] 43)).heap.size) := Lib.hid (by simp); have HW7 : Hid (w.heap.size ≤ w7.heap.size) := Lib.hid (Nat.le_trans hz0 hz7); clear tok1)
      | (refine step_appG _ (by rfl) (.tmp 62) (.tmp 65) 30 43 rfl Try.underlying30 info43 w.heap.size (.slice (some ⟨w7.heap.size, 0, none⟩) 0 0) [] rfl HO7.out w7.heap.size (some ⟨ga, 0, none⟩) (a.drop 0) 0 ca rfl HM.out HR7.out (fun h => by cases h) (by decide) HD.out HB7.out ?_; intro v8 w8 h8 g8 ho8 nn8; have HX8 : Hid (∀ q, v8.ownBlock = some q → w7.heap.size ≤ q) := Lib.hid (fun q hq => (by rcases ho8 with h | h <;> rw [h] at hq <;> simp [Value.ownBlock] at hq <;> omega)); clear ho8; have hz8 := g8.size; have HR8 := Lib.hid (HR7'.out.grown g8 HZ7.out (fun q hq => (by cases hq; exact Nat.le_refl _))); have HRa8 := Lib.hid ((hra7.alloc (.cells #[] 43) (Nat.le_refl _)).grown g8 HZ7.out (fun q hq => (by cases hq; exact Nat.le_refl _))); have HB8 := Lib.hid (Nat.le_trans HB7.out hz8); have NN8 := Lib.hid (nn8 (fun h => by cases h)); clear nn8)
      | (refine step_appG _ (by rfl) (.tmp 66) (.tmp 69) 30 43 rfl Try.underlying30 info43 w.heap.size v8 ([] ++ a.drop 0) rfl h8 w7.heap.size (some ⟨ga, 0, none⟩) (a.take 0) 0 ca rfl HM2.out HR8.out (fun h => by cases h) HD3.out HD2.out HB8.out ?_; intro v9 w9 h9 g9 _ nn9; have hz9 := g9.size; obtain ⟨gg, c9, e9, r9⟩ := row9z h9 (nn9 NN8.out) H0.out; subst e9; have HRa9 := Lib.hid ((HRa8.out.grown g9 (Nat.le_trans HZ7.out hz8) HX8.out).more (Nat.le_trans (Nat.le_trans HZ7.out hz8) hz9)); have R9 := Lib.hid r9; have HF9 := Lib.hid (((hbel6.trans (hb7'.mono hz0)).alloc HW7.out (.cells #[] 43)).grown g8 HB7.out (fun q hq => (by cases hq; exact HW7.out))); have HG9 := Lib.hid (HF9.out.grown g9 HB8.out (fun q hq => Nat.le_trans HW7.out (HX8.out q hq))); clear h9 g9 nn9 r9 HF9 g8 h8)
      | (go_at_call 17; have _t := tok2; refine (setEqual_any w9.heap.size (some ⟨ga, 0, none⟩) 0 ca a (some ⟨gg, 0, none⟩) 0 c9 (a.drop 0 ++ a.take 0) w9 HRa9.out R9.out (Nat.le_refl _) H0.out HAl.out hba HTl.out HAl.out HTb.out).mono ?_; rintro e w10 ⟨rfl, hb10⟩; have HT := HTurn.out; have HZ9 := HG9.out.size; clear tok2)))
  have HF := Lib.hid (HG9.out.trans (hb10.mono HZ9))
  clear hb10
  go_wp2
  go_ret
  exact ⟨rfl, HF.out⟩

set_option maxHeartbeats 2000000 in
set_option maxRecDepth 100000 in
theorem equal_some (A : Option Addr) (n c : Nat) (ns : List Nat) (A' : Option Addr) (n' c' : Nat) (ms : List Nat) (t : Nat) (w : World) (hl : IsL w A n ns) (hm : IsL w A' n' ms) (h : n ≤ 1000) (h' : n' ≤ 1000) (ht1 : t ≤ 255) (h0 : ¬ (PS ns).length = 0) :
    Calls Try.prog 4 #[.slice A n c, .slice A' n' c', .int .u8 (t : Int)] w fun e w' => e = .returned (.bool true) ∧ Below w.heap.size w w' := by
  have hd1 : decide (2147483647 < (n : Int)) = false := by simp; omega
  have hd2 : decide (2147483647 < (n' : Int)) = false := by simp; omega
  go_enter Try.func4, Try.ntmps4
  go_wp2_with fail
  refine (short_yes _ _ _ _ _ _ _ h h').mono ?_
  rintro e w' ⟨rfl, rfl⟩
  go_wp2_with fail
  refine (nonzero_any A n c ns _ hl.1 (by omega) hl.2.1 hl.2.2).mono ?_
  rintro e w1 ⟨v, rfl, hvn, hv, hb1⟩
  obtain ⟨g, cv, rfl, hgc, hg, hN, hNb, hNc⟩ := handed hv hvn hl.1 hl.2.1
  have hm1 := hm.keep hb1
  have hz1 := hb1.size
  clear hv hvn
  go_wp2_with fail
  refine (setOf_any g cv (ns.map nzN) n _ hN hgc hNb hg hNc).mono ?_
  rintro e w2 ⟨v1, v2, rfl, hn1, hn2, ha, hb, hb2⟩
  change OwnP 43 w2 w1.heap.size v1 (PS ns) at ha
  change OwnP 46 w2 w1.heap.size v2 (PS ns) at hb
  have hz2 := hb2.size
  have hm2 := hm1.keep hb2
  clear hN hgc hNb hg hNc
  go_wp2_with fail
  refine (nonzero_any A' n' c' ms _ hm.1 (by omega) hm2.2.1 hm2.2.2).mono ?_
  rintro e w3 ⟨v, rfl, hvn, hv, hb3⟩
  obtain ⟨g, cv, rfl, hgc, hg, hN, hNb, hNc⟩ := handed hv hvn hm.1 hm.2.1
  have hz3 := hb3.size
  clear hv hvn
  go_wp2_with fail
  refine (setOf_any g cv (ms.map nzN) n' _ hN hgc hNb hg hNc).mono ?_
  rintro e w4 ⟨v3, v4, rfl, hn3, hn4, hx, hy, hb4⟩
  change OwnP 43 w4 w3.heap.size v3 (PS ms) at hx
  change OwnP 46 w4 w3.heap.size v4 (PS ms) at hy
  have hz4 := hb4.size
  clear hN hgc hNb hg hNc
  have ha4 := (ha.below hb3).below (hb4.mono (Nat.le_refl _))
  have hb4' := (hb.below hb3).below (hb4.mono (Nat.le_refl _))
  have hbel : Below w.heap.size w w4 := ((hb1.trans (hb2.mono hz1)).trans (hb3.mono (by omega))).trans (hb4.mono (by omega))
  obtain ⟨a, ha'⟩ : ∃ a, PS ns = a := ⟨_, rfl⟩
  obtain ⟨b, hb'⟩ : ∃ b, PS ms = b := ⟨_, rfl⟩
  have hba := bd_PS ns
  have hla := length_PS ns
  have hbb := bd_PS ms
  have hlb := length_PS ms
  rw [ha'] at ha4 hb4' hba hla h0
  rw [hb'] at hx hy hbb hlb
  clear ha hb ha' hb' hb1 hb2 hb3 hb4 hm hm1 hm2 hl hd1 hd2
  obtain ⟨ga, ca, rfl, hca, _, hra⟩ := ha4.lay hn1
  obtain ⟨gb, cb, rfl, hcb, _, hrb⟩ := hb4'.lay hn2
  obtain ⟨gx, cx, rfl, hcx, _, hrx⟩ := hx.lay hn3
  obtain ⟨gy, cy, rfl, hcy, _, hry⟩ := hy.lay hn4
  have hpos : 0 < a.length := by omega
  clear h0
  obtain ⟨kk, hkk⟩ : ∃ kk : Nat, (t : Int) % (a.length : Int) = (kk : Int) := ⟨t % a.length, by omega⟩
  have hkl : kk < a.length := by have := Int.emod_lt_of_pos (t : Int) (b := (a.length : Int)) (by omega); omega
  go_wp2_with fail
  refine (less_any w4.heap.size (some ⟨gb, 0, none⟩) a.length cb a (some ⟨gy, 0, none⟩) b.length cy b _ hrb hry (Nat.le_refl _) rfl (by omega) hba rfl (by omega) hbb).mono ?_
  rintro e w5 ⟨v5, rfl, h5, hb5⟩
  obtain ⟨A5, c5, e5, _⟩ := h5.form
  subst e5
  have hz5 := hb5.size
  go_wp2_with fail
  refine (less_any w5.heap.size (some ⟨gy, 0, none⟩) b.length cy b (some ⟨gb, 0, none⟩) a.length cb a _ ((hry.below hb5).more hz5) ((hrb.below hb5).more hz5) (Nat.le_refl _) rfl (by omega) hbb rfl (by omega) hba).mono ?_
  rintro e w6 ⟨v6, rfl, h6, hb6⟩
  obtain ⟨A6, c6, e6, _⟩ := h6.form
  subst e6
  have hz6 := hb6.size
  have l5 := length_lessL a b
  have l6 := length_lessL b a
  have hbel6 : Below w.heap.size w w6 := (hbel.trans (hb5.mono (by omega))).trans (hb6.mono (by omega))
  obtain ⟨q, hq⟩ : ∃ q, decide (setL a = setL b) = q := ⟨_, rfl⟩
  have hone : ((((lessL a b).length : Int) + ((lessL b a).length : Int)) == 0) = q := by
    rw [← hq, Bool.eq_iff_iff, beq_iff_eq, decide_eq_true_iff, same_iff hba hbb]; omega
  have hra6 := ((hra.below hb5).below (hb6.mono hz5)).more (Nat.le_trans hz5 hz6)
  have hrx6 := ((hrx.below hb5).below (hb6.mono hz5)).more (Nat.le_trans hz5 hz6)
  clear h5 h6 hb5 hb6 hra hrb hrx hry ha4 hb4' hx hy
  go_wp2_with fail
  have HTurn := Lib.hid (decide_eq_true (setL_turned hba kk))
  have HTb := Lib.hid (bd_turned hba kk)
  have HTl : Hid ((a.drop kk ++ a.take kk).length = a.length) := Lib.hid (by simp; omega)
  have hkc : ¬ ca = kk := by omega
  have hkc' : kk ≤ ca := by omega
  have hkl' : kk ≤ a.length := by omega
  have hz0 : w.heap.size ≤ w6.heap.size := hbel6.size
  have HM := Lib.hid (show a.length - kk = (a.drop kk).length by simp)
  have HM2 := Lib.hid (show kk = (a.take kk).length by simp; omega)
  have HD := Lib.hid (show (a.drop kk).length < 4294967296 by simp; omega)
  have HD2 := Lib.hid (show (a.take kk).length < 4294967296 by simp; omega)
  have HD3 := Lib.hid (show ([] ++ a.drop kk).length < 4294967296 by simp; omega)
  have HAl : Hid (a.length < 2147483648) := Lib.hid (by omega)
  have tok1 : True := trivial
  have tok2 : True := trivial
  have HC1 := Lib.hid (setEqual_any w6.heap.size (some ⟨ga, 0, none⟩) a.length ca a (some ⟨gx, 0, none⟩) b.length cx b w6.drew hra6.drew hrx6.drew (Nat.le_refl _) rfl (by omega) hba rfl (by omega) hbb)
  go_region_held3 (fun _ => True) (trivial)
    ((first
      | (go_at_call 17; have _t := tok1; refine HC1.out.mono ?_; rintro e w7 ⟨rfl, hb7⟩; have hb7' := below_of_drew hb7; have hz7 := hb7'.size; have hra7 := (hra6.below hb7').more hz7; have HO7 := Lib.hid (own_empty w7 w7 w.heap.size 43 rfl (by omega)); have HR7 := Lib.hid ((row_off hra7 kk).alloc (.cells #[] 43) (Nat.le_refl _)); have HR7' := Lib.hid ((hra7.front kk).alloc (.cells #[] 43) (Nat.le_refl _)); have HB7 : Hid (w.heap.size ≤ (w7.alloc (.cells #[] 43)).heap.size) := Lib.hid (by simp; omega); have HZ7 : Hid (w7.heap.size ≤ (w7.alloc (.cells #[] 43)).heap.size) := Lib.hid (by simp); have HW7 : Hid (w.heap.size ≤ w7.heap.size) := Lib.hid (Nat.le_trans hz0 hz7); clear tok1)
      | (refine step_appG _ (by rfl) (.tmp 62) (.tmp 65) 30 43 rfl Try.underlying30 info43 w.heap.size (.slice (some ⟨w7.heap.size, 0, none⟩) 0 0) [] rfl HO7.out w7.heap.size (some ⟨ga, kk * 2, none⟩) (a.drop kk) (a.length - kk) (ca - kk) rfl HM.out HR7.out (fun h => by cases h) (by decide) HD.out HB7.out ?_; intro v8 w8 h8 g8 ho8 nn8; have HX8 : Hid (∀ q, v8.ownBlock = some q → w7.heap.size ≤ q) := Lib.hid (fun q hq => (by rcases ho8 with h | h <;> rw [h] at hq <;> simp [Value.ownBlock] at hq <;> omega)); clear ho8; have hz8 := g8.size; have HR8 := Lib.hid (HR7'.out.grown g8 HZ7.out (fun q hq => (by cases hq; exact Nat.le_refl _))); have HRa8 := Lib.hid ((hra7.alloc (.cells #[] 43) (Nat.le_refl _)).grown g8 HZ7.out (fun q hq => (by cases hq; exact Nat.le_refl _))); have HB8 := Lib.hid (Nat.le_trans HB7.out hz8); have NN8 := Lib.hid (nn8 (fun h => by cases h)); clear nn8)
      | (refine step_appG _ (by rfl) (.tmp 66) (.tmp 69) 30 43 rfl Try.underlying30 info43 w.heap.size v8 ([] ++ a.drop kk) rfl h8 w7.heap.size (some ⟨ga, 0, none⟩) (a.take kk) kk ca rfl HM2.out HR8.out (fun h => by cases h) HD3.out HD2.out HB8.out ?_; intro v9 w9 h9 g9 _ nn9; have hz9 := g9.size; obtain ⟨gg, c9, e9, r9⟩ := row9 h9 (nn9 NN8.out) hkl'; subst e9; have HRa9 := Lib.hid ((HRa8.out.grown g9 (Nat.le_trans HZ7.out hz8) HX8.out).more (Nat.le_trans (Nat.le_trans HZ7.out hz8) hz9)); have R9 := Lib.hid r9; have HF9 := Lib.hid (((hbel6.trans (hb7'.mono hz0)).alloc HW7.out (.cells #[] 43)).grown g8 HB7.out (fun q hq => (by cases hq; exact HW7.out))); have HG9 := Lib.hid (HF9.out.grown g9 HB8.out (fun q hq => Nat.le_trans HW7.out (HX8.out q hq))); clear h9 g9 nn9 r9 HF9 g8 h8)
      | (go_at_call 17; have _t := tok2; refine (setEqual_any w9.heap.size (some ⟨ga, 0, none⟩) a.length ca a (some ⟨gg, 0, none⟩) a.length c9 (a.drop kk ++ a.take kk) w9 HRa9.out R9.out (Nat.le_refl _) rfl HAl.out hba HTl.out HAl.out HTb.out).mono ?_; rintro e w10 ⟨rfl, hb10⟩; have HT := HTurn.out; have HZ9 := HG9.out.size; clear tok2)))
  have HF := Lib.hid (HG9.out.trans (hb10.mono HZ9))
  clear hb10
  go_wp2
  go_ret
  exact ⟨rfl, HF.out⟩

/-- FnEqual: true, whatever the input. -/
theorem equal_all (A : Option Addr) (n c : Nat) (ns : List Nat) (A' : Option Addr) (n' c' : Nat) (ms : List Nat) (t : Nat) (w : World) (hl : IsL w A n ns) (hm : IsL w A' n' ms) (ht1 : t ≤ 255) :
    Calls Try.prog 4 #[.slice A n c, .slice A' n' c', .int .u8 (t : Int)] w fun e w' => e = .returned (.bool true) ∧ Below w.heap.size w w' := by
  by_cases h : n ≤ 1000 ∧ n' ≤ 1000
  · by_cases h0 : (PS ns).length = 0
    · exact equal_none A n c ns A' n' c' ms t w hl hm h.1 h.2 h0
    · exact equal_some A n c ns A' n' c' ms t w hl hm h.1 h.2 ht1 h0
  · clear hl hm
    have hlong : 1000 < n ∨ 1000 < n' := by omega
    clear h
    by_cases h1 : 2147483647 < n
    · have hd1 : decide (2147483647 < (n : Int)) = true := by simp; omega
      clear hlong
      go_enter Try.func4, Try.ntmps4
      go_wp2_with fail
      go_ret
      exact ⟨rfl, Below.refl _ _⟩
    · have hd1 : decide (2147483647 < (n : Int)) = false := by simp; omega
      by_cases h2 : 2147483647 < n'
      · have hd2 : decide (2147483647 < (n' : Int)) = true := by simp; omega
        clear hlong
        go_enter Try.func4, Try.ntmps4
        go_wp2_with fail
        go_ret
        exact ⟨rfl, Below.refl _ _⟩
      · have hd2 : decide (2147483647 < (n' : Int)) = false := by simp; omega
        go_enter Try.func4, Try.ntmps4
        go_wp2_with fail
        refine (short_no _ _ _ _ _ _ _ hlong).mono ?_
        rintro e w' ⟨rfl, rfl⟩
        go_wp2
        go_ret
        exact ⟨rfl, Below.refl _ _⟩

end Go.Proofs.Ytmonokfibldghaa
