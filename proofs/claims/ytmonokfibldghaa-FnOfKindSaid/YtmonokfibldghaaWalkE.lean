/- The walk of FnUpdate. Conditions: lengths as stated. -/
import Derived.Test.YtmonokfibldghaaWalkD
namespace Go.Proofs.Ytmonokfibldghaa
open Go.RowKit Go.Maps Pl

theorem bd_append {a b : PL} (ha : Bd a) (hb : Bd b) : Bd (a ++ b) := fun p hp => by
  rcases List.mem_append.1 hp with h | h
  · exact ha p h
  · exact hb p h
theorem update_sorted {a b S : PL} (ha : Bd a) (hb : Bd b) (h : Ok S) (hS : ∀ j, getL S j = getL (setL a) j ||| getL (setL b) j) : S = sortedL (a ++ b) :=
  sortedL_uniq (bd_append ha hb) h fun i => by rw [hS, get_setL ha, get_setL hb, hasm_append]
theorem update_changed {a b : PL} {ch : Bool} (ha : Bd a) (hb : Bd b) (h : ch = true ↔ ∃ p ∈ setL b, ¬ getL (setL a) p.1 &&& p.2 = p.2) : decide (0 < (lessL b a).length) = ch := by
  have hz := length_lessL_zero a hb
  have hok := ok_setL hb
  rw [Bool.eq_iff_iff, h, decide_eq_true_iff]
  constructor
  · intro h1
    have h2 : ¬ ∀ i, andn (hasm b i) (hasm a i) = 0 := fun e => by have := hz.2 e; omega
    obtain ⟨i, hi⟩ := Classical.not_forall.1 h2
    rw [andn_zero_iff] at hi
    refine ⟨(i, getL (setL b) i), mem_of_has ((has_iff_get hok.2.1 i).2 fun e => hi ?_), ?_⟩
    · rw [get_setL hb] at e; rw [e]; simp
    · rw [get_setL ha, get_setL hb]; exact hi
  · rintro ⟨p, hp, hn⟩
    have h2 : ¬ (lessL b a).length = 0 := fun e => by
      have := (andn_zero_iff _ _).1 (hz.1 e p.1)
      have hg := get_of_mem hok.1 (i := p.1) (v := p.2) hp
      rw [get_setL hb] at hg
      rw [get_setL ha] at hn
      rw [hg] at this
      exact hn this
    omega
theorem length_sorted_append (a b : PL) : (sortedL (a ++ b)).length ≤ a.length + b.length := by
  have := length_sortedL (a ++ b); simpa using this

set_option maxHeartbeats 2000000 in
set_option maxRecDepth 100000 in
theorem fnUpdate_few (A : Option Addr) (n c : Nat) (ns : List Nat) (A' : Option Addr) (n' c' : Nat) (ms : List Nat) (w : World) (hl : IsL w A n ns) (hm : IsL w A' n' ms) (h : n ≤ 1000) (h' : n' ≤ 1000) :
    Calls Try.prog 9 #[.slice A n c, .slice A' n' c'] w fun e w' => e = .returned (.bool true) ∧ Below w.heap.size w w' := by
  have hd1 : decide (2147483647 < (n : Int)) = false := by simp; omega
  have hd2 : decide (2147483647 < (n' : Int)) = false := by simp; omega
  go_enter Try.func9, Try.ntmps9
  go_wp2_with fail
  refine (short_yes _ _ _ _ _ _ _ h h').mono ?_
  rintro e w' ⟨rfl, rfl⟩
  go_wp2_with fail
  refine (nonzero_any A n c ns _ hl.1 (by omega) hl.2.1 hl.2.2).mono ?_
  rintro e w1 ⟨v, rfl, hvn, hv, hb1⟩
  obtain ⟨g, cv, rfl, hgc, hg, hN, hNb, hNc⟩ := handed hv hvn hl.1 hl.2.1
  have hm1 := hm.keep hb1
  have hz1 := hb1.size
  clear hv hvn
  go_wp2_with fail
  refine (setOf_any g cv (ns.map nzN) n _ hN hgc hNb hg hNc).mono ?_
  rintro e w2 ⟨v1, v2, rfl, hn1, hn2, ha, hb, hb2⟩
  change OwnP 43 w2 w1.heap.size v1 (PS ns) at ha
  change OwnP 46 w2 w1.heap.size v2 (PS ns) at hb
  have hz2 := hb2.size
  have hm2 := hm1.keep hb2
  clear hN hgc hNb hg hNc
  go_wp2_with fail
  refine (nonzero_any A' n' c' ms _ hm.1 (by omega) hm2.2.1 hm2.2.2).mono ?_
  rintro e w3 ⟨v, rfl, hvn, hv, hb3⟩
  obtain ⟨g, cv, rfl, hgc, hg, hN, hNb, hNc⟩ := handed hv hvn hm.1 hm.2.1
  have hz3 := hb3.size
  clear hv hvn
  go_wp2_with fail
  refine (setOf_any g cv (ms.map nzN) n' _ hN hgc hNb hg hNc).mono ?_
  rintro e w4 ⟨v3, v4, rfl, hn3, hn4, hx, hy, hb4⟩
  change OwnP 43 w4 w3.heap.size v3 (PS ms) at hx
  change OwnP 46 w4 w3.heap.size v4 (PS ms) at hy
  have hz4 := hb4.size
  clear hN hgc hNb hg hNc
  have ha4 := (ha.below hb3).below (hb4.mono (Nat.le_refl _))
  have hb4' := (hb.below hb3).below (hb4.mono (Nat.le_refl _))
  have hbel : Below w.heap.size w w4 := ((hb1.trans (hb2.mono hz1)).trans (hb3.mono (by omega))).trans (hb4.mono (by omega))
  obtain ⟨a, ha'⟩ : ∃ a, PS ns = a := ⟨_, rfl⟩
  obtain ⟨b, hb'⟩ : ∃ b, PS ms = b := ⟨_, rfl⟩
  have hba := bd_PS ns
  have hla := length_PS ns
  have hbb := bd_PS ms
  have hlb := length_PS ms
  rw [ha'] at ha4 hb4' hba hla
  rw [hb'] at hx hy hbb hlb
  clear ha hb ha' hb' hb1 hb2 hb3 hb4 hm hm1 hm2 hl hd1 hd2
  obtain ⟨ga, ca, rfl, hca, _, hra⟩ := ha4.lay hn1
  obtain ⟨gb, cb, rfl, hcb, _, hrb⟩ := hb4'.lay hn2
  obtain ⟨gx, cx, rfl, hcx, _, hrx⟩ := hx.lay hn3
  obtain ⟨gy, cy, rfl, hcy, _, hry⟩ := hy.lay hn4
  clear hy hx ha4 hb4'
  go_wp2_with fail
  refine (setUpdate_any w4.heap.size (some ⟨ga, 0, none⟩) a.length ca a (some ⟨gx, 0, none⟩) b.length cx b _ hra hrx (Nat.le_refl _) rfl (by omega) hba rfl (by omega) hbb).mono ?_
  rintro e w5 ⟨v5, ch, S, rfl, hch, hSok, hSg, h5, hb5⟩
  have hS := update_sorted hba hbb hSok hSg
  subst hS
  have hq := update_changed hba hbb hch
  have hz5 := hb5.size
  have HE0 := Lib.hid (own_empty w5 w5 w5.heap.size 46 rfl (Nat.le_refl _))
  have HZ5 : Hid (w5.heap.size ≤ (w5.alloc (.cells #[] 46)).heap.size) := Lib.hid (by simp)
  have hra5 := (hra.below hb5).more hz5
  have hrb5 := (hrb.below hb5).more hz5
  have hrx5 := (hrx.below hb5).more hz5
  have hry5 := (hry.below hb5).more hz5
  have HB0 := Lib.hid (hrb5.alloc (.cells #[] 46) (Nat.le_refl _))
  have HY0 := Lib.hid (hry5.alloc (.cells #[] 46) (Nat.le_refl _))
  have HL0 := Lib.hid (show a.length < 4294967296 by omega)
  have HLb := Lib.hid (show b.length < 4294967296 by omega)
  have HL1 := Lib.hid (show ([] ++ a).length < 4294967296 by simp; omega)
  obtain ⟨A5, c5, e5, r5⟩ := h5.form
  subst e5
  have hbel6 := hbel.trans (hb5.mono hbel.size)
  clear hb5 hra hrb hrx hry h5 hbel hch hSok hSg
  go_wp2_with (first
    | (at_builtin; refine wpList_appP _ rfl (.tmp 42) (.tmp 43) 31 46 rfl Try.underlying31 info46 w5.heap.size (.slice (some ⟨w5.heap.size, 0, none⟩) 0 0) [] rfl HE0.out w5.heap.size (some ⟨gb, 0, none⟩) a a.length cb rfl rfl HB0.out (fun h => by cases h) (by decide) HL0.out HZ5.out ?_; intro v6 w6 h6 g6 _ _; have HZ6 := Lib.hid (Nat.le_trans HZ5.out g6.size); have HY1 := Lib.hid (HY0.out.grown g6 HZ5.out (fun q hq => by cases hq; exact Nat.le_refl _)); have H6 := Lib.hid h6; clear h6)
    | (at_builtin; refine wpList_appP _ rfl (.tmp 44) (.tmp 45) 31 46 rfl Try.underlying31 info46 w5.heap.size v6 ([] ++ a) rfl H6.out w5.heap.size (some ⟨gy, 0, none⟩) b b.length cy rfl rfl HY1.out (fun h => by cases h) HL1.out HLb.out HZ6.out ?_; intro v7 w7 h7 g7 _ _))
  have bel7 : Below w5.heap.size w5 w7 := (((Below.refl w5.heap.size w5).alloc (Nat.le_refl _) (.cells #[] 46)).grown g6 HZ5.out (fun q hq => by cases hq; exact Nat.le_refl _)).grown g7 HZ6.out H6.out.own_le
  rw [List.nil_append] at h7
  obtain ⟨A7, c7, e7, r7⟩ := h7.form
  subst e7
  have hz7 := bel7.size
  clear g6 g7 HE0 HZ5 HB0 HY0 HZ6 HY1 H6 h7
  refine (sorted_any w7.heap.size A7 (a ++ b).length c7 (a ++ b) _ r7 (Nat.le_refl _) rfl (by simp; omega) (bd_append hba hbb)).mono ?_
  rintro e w8 ⟨v8, rfl, h8, hb8⟩
  obtain ⟨A8, c8, e8, r8⟩ := h8.form
  subst e8
  have hz8 := hb8.size
  have bel8 := bel7.trans (hb8.mono hz7)
  have hz58 := bel8.size
  have hbel9 := hbel6.trans (bel8.mono hbel6.size)
  have hR5 := (r5.below bel8).more hz58
  have hra8 := (hra5.below bel8).more hz58
  have hrb8 := (hrb5.below bel8).more hz58
  have hrx8 := (hrx5.below bel8).more hz58
  have hry8 := (hry5.below bel8).more hz58
  have hLen := length_sorted_append a b
  have hLs := length_lessL b a
  clear h8 hb8 bel7 bel8 r7 r5 hra5 hrb5 hrx5 hry5
  go_wp2_with fail
  refine (setIs_same w8.heap.size A5 (sortedL (a ++ b)).length c5 A8 c8 (sortedL (a ++ b)) w8 hR5 r8 rfl (by omega)).mono ?_
  rintro e w9 ⟨rfl, hb9⟩
  have hz9 := hb9.size
  have hR9 := (hR5.below hb9).more hz9
  have hra9 := (hra8.below hb9).more hz9
  have hrb9 := (hrb8.below hb9).more hz9
  have hrx9 := (hrx8.below hb9).more hz9
  have hry9 := (hry8.below hb9).more hz9
  have hbel10 := hbel9.trans (hb9.mono hbel9.size)
  clear hb9 hR5 r8 hra8 hrb8 hrx8 hry8
  go_wp2_with fail
  refine (less_any w9.heap.size (some ⟨gy, 0, none⟩) b.length cy b (some ⟨gb, 0, none⟩) a.length cb a _ hry9 hrb9 (Nat.le_refl _) rfl (by omega) hbb rfl (by omega) hba).mono ?_
  rintro e w10 ⟨v10, rfl, h10, hb10⟩
  obtain ⟨A10, c10, e10, _⟩ := h10.form
  subst e10
  have hz10 := hb10.size
  have hR10 := (hR9.below hb10).more hz10
  have hra10 := (hra9.below hb10).more hz10
  have hrx10 := (hrx9.below hb10).more hz10
  have hbel11 := hbel10.trans (hb10.mono hbel10.size)
  clear h10 hb10 hR9 hra9 hrb9 hrx9 hry9
  have HE1 := Lib.hid (own_empty w10 w10 w10.heap.size 43 rfl (Nat.le_refl _))
  have HZ10 : Hid (w10.heap.size ≤ (w10.alloc (.cells #[] 43)).heap.size) := Lib.hid (by simp)
  have HA10 := Lib.hid (hra10.alloc (.cells #[] 43) (Nat.le_refl _))
  have HX10 := Lib.hid (hrx10.alloc (.cells #[] 43) (Nat.le_refl _))
  go_wp2_with (first
    | (at_builtin; refine wpList_appG _ (by rfl) (.tmp 62) (.tmp 63) 30 43 rfl Try.underlying30 info43 w10.heap.size (.slice (some ⟨w10.heap.size, 0, none⟩) 0 0) [] rfl HE1.out w10.heap.size (some ⟨ga, 0, none⟩) a a.length ca rfl rfl HA10.out (fun h => by cases h) (by decide) HL0.out HZ10.out ?_; intro v11 w11 h11 g11 _ _; have HZ11 := Lib.hid (Nat.le_trans HZ10.out g11.size); have HX11 := Lib.hid (HX10.out.grown g11 HZ10.out (fun q hq => by cases hq; exact Nat.le_refl _)); have H11 := Lib.hid h11; clear h11)
    | (at_builtin; refine wpList_appG _ (by rfl) (.tmp 64) (.tmp 65) 30 43 rfl Try.underlying30 info43 w10.heap.size v11 ([] ++ a) rfl H11.out w10.heap.size (some ⟨gx, 0, none⟩) b b.length cx rfl rfl HX11.out (fun h => by cases h) HL1.out HLb.out HZ11.out ?_; intro v12 w12 h12 g12 _ _))
  have bel12 : Below w10.heap.size w10 w12 := (((Below.refl w10.heap.size w10).alloc (Nat.le_refl _) (.cells #[] 43)).grown g11 HZ10.out (fun q hq => by cases hq; exact Nat.le_refl _)).grown g12 HZ11.out H11.out.own_le
  rw [List.nil_append] at h12
  obtain ⟨A12, c12, e12, r12⟩ := h12.form
  subst e12
  have hR12 := hR10.below bel12
  have hbel13 := hbel11.trans (bel12.mono hbel11.size)
  have hz12 := bel12.size
  have HC := setEqual_any w12.heap.size A5 (sortedL (a ++ b)).length c5 (sortedL (a ++ b)) A12 (a ++ b).length c12 (a ++ b) _ (hR12.more hz12) r12 (Nat.le_refl _) rfl (by omega) (ok_sortedL (bd_append hba hbb)).2.2 rfl (by simp; omega) (bd_append hba hbb)
  rw [decide_eq_true (show setL (sortedL (a ++ b)) = setL (a ++ b) by rw [setL_ok (ok_sortedL (bd_append hba hbb)), setL_eq_sorted (bd_append hba hbb)])] at HC
  refine HC.mono ?_
  rintro e w13 ⟨rfl, hb13⟩
  have HF := Lib.hid (hbel13.trans (hb13.mono hbel13.size))
  clear hbel13 hb13 bel12
  go_wp2
  go_ret
  exact ⟨rfl, HF.out⟩

/-- FnUpdate: true, whatever the input. -/
theorem fnUpdate_all (A : Option Addr) (n c : Nat) (ns : List Nat) (A' : Option Addr) (n' c' : Nat) (ms : List Nat) (w : World) (hl : IsL w A n ns) (hm : IsL w A' n' ms) :
    Calls Try.prog 9 #[.slice A n c, .slice A' n' c'] w fun e w' => e = .returned (.bool true) ∧ Below w.heap.size w w' := by
  by_cases h : n ≤ 1000 ∧ n' ≤ 1000
  · exact fnUpdate_few A n c ns A' n' c' ms w hl hm h.1 h.2
  · clear hl hm
    have hlong : 1000 < n ∨ 1000 < n' := by omega
    clear h
    by_cases h1 : 2147483647 < n
    · have hd1 : decide (2147483647 < (n : Int)) = true := by simp; omega
      clear hlong
      go_enter Try.func9, Try.ntmps9
      go_wp2_with fail
      go_ret
      exact ⟨rfl, Below.refl _ _⟩
    · have hd1 : decide (2147483647 < (n : Int)) = false := by simp; omega
      by_cases h2 : 2147483647 < n'
      · have hd2 : decide (2147483647 < (n' : Int)) = true := by simp; omega
        clear hlong
        go_enter Try.func9, Try.ntmps9
        go_wp2_with fail
        go_ret
        exact ⟨rfl, Below.refl _ _⟩
      · have hd2 : decide (2147483647 < (n' : Int)) = false := by simp; omega
        go_enter Try.func9, Try.ntmps9
        go_wp2_with fail
        refine (short_no _ _ _ _ _ _ _ hlong).mono ?_
        rintro e w' ⟨rfl, rfl⟩
        go_wp2
        go_ret
        exact ⟨rfl, Below.refl _ _⟩

end Go.Proofs.Ytmonokfibldghaa
