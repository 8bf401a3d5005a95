/- The walk of FnDifference. Conditions: lengths as stated. -/
import Derived.Test.YtmonokfibldghaaWalkE
namespace Go.Proofs.Ytmonokfibldghaa
open Go.RowKit Go.Maps Pl

theorem diff_less {a b S : PL} (ha : Bd a) (hb : Bd b) (h : Ok S) (hS : ∀ j, getL S j = andn (getL (setL a) j) (getL (setL b) j)) : S = lessL a b :=
  ok_ext h (ok_lessL b ha) fun i => by rw [hS, get_setL ha, get_setL hb, get_lessL]
theorem andn_or (x y : Nat) : andn x y ||| y = x ||| y := Nat.eq_of_testBit_eq fun j => by
  rw [Nat.testBit_or, Nat.testBit_or, andn_bit]
  cases x.testBit j <;> cases y.testBit j <;> rfl
theorem less_update_sorted {a b S : PL} (ha : Bd a) (hb : Bd b) (h : Ok S) (hS : ∀ j, getL S j = getL (setL (lessL a b)) j ||| getL (setL b) j) : S = sortedL (a ++ b) :=
  sortedL_uniq (bd_append ha hb) h fun i => by
    rw [hS, setL_ok (ok_lessL b ha), get_setL hb, get_lessL, hasm_append, andn_or]
theorem diff_nil_sorted {a S : PL} (ha : Bd a) (h : Ok S) (hS : ∀ j, getL S j = andn (getL (setL a) j) (getL (setL []) j)) : S = sortedL a :=
  sortedL_uniq ha h fun i => by
    have h0 : getL (setL []) i = 0 := rfl
    rw [hS, h0, get_setL ha]; simp [andn]
theorem row_nil (w : World) (B : Nat) : RowP w B none [] := fun h => by simp at h

set_option maxHeartbeats 2000000 in
set_option maxRecDepth 100000 in
theorem fnDifference_few (A : Option Addr) (n c : Nat) (ns : List Nat) (A' : Option Addr) (n' c' : Nat) (ms : List Nat) (w : World) (hl : IsL w A n ns) (hm : IsL w A' n' ms) (h : n ≤ 1000) (h' : n' ≤ 1000) :
    Calls Try.prog 10 #[.slice A n c, .slice A' n' c'] w fun e w' => e = .returned (.bool true) ∧ Below w.heap.size w w' := by
  have hd1 : decide (2147483647 < (n : Int)) = false := by simp; omega
  have hd2 : decide (2147483647 < (n' : Int)) = false := by simp; omega
  go_enter Try.func10, Try.ntmps10
  go_wp2_with fail
  refine (short_yes _ _ _ _ _ _ _ h h').mono ?_
  rintro e w' ⟨rfl, rfl⟩
  go_wp2_with fail
  refine (nonzero_any A n c ns _ hl.1 (by omega) hl.2.1 hl.2.2).mono ?_
  rintro e w1 ⟨v, rfl, hvn, hv, hb1⟩
  obtain ⟨g, cv, rfl, hgc, hg, hN, hNb, hNc⟩ := handed hv hvn hl.1 hl.2.1
  have hm1 := hm.keep hb1
  have hz1 := hb1.size
  clear hv hvn
  go_wp2_with fail
  refine (setOf_any g cv (ns.map nzN) n _ hN hgc hNb hg hNc).mono ?_
  rintro e w2 ⟨v1, v2, rfl, hn1, hn2, ha, hb, hb2⟩
  change OwnP 43 w2 w1.heap.size v1 (PS ns) at ha
  change OwnP 46 w2 w1.heap.size v2 (PS ns) at hb
  have hz2 := hb2.size
  have hm2 := hm1.keep hb2
  clear hN hgc hNb hg hNc
  go_wp2_with fail
  refine (nonzero_any A' n' c' ms _ hm.1 (by omega) hm2.2.1 hm2.2.2).mono ?_
  rintro e w3 ⟨v, rfl, hvn, hv, hb3⟩
  obtain ⟨g, cv, rfl, hgc, hg, hN, hNb, hNc⟩ := handed hv hvn hm.1 hm.2.1
  have hz3 := hb3.size
  clear hv hvn
  go_wp2_with fail
  refine (setOf_any g cv (ms.map nzN) n' _ hN hgc hNb hg hNc).mono ?_
  rintro e w4 ⟨v3, v4, rfl, hn3, hn4, hx, hy, hb4⟩
  change OwnP 43 w4 w3.heap.size v3 (PS ms) at hx
  change OwnP 46 w4 w3.heap.size v4 (PS ms) at hy
  have hz4 := hb4.size
  clear hN hgc hNb hg hNc
  have ha4 := (ha.below hb3).below (hb4.mono (Nat.le_refl _))
  have hb4' := (hb.below hb3).below (hb4.mono (Nat.le_refl _))
  have hbel : Below w.heap.size w w4 := ((hb1.trans (hb2.mono hz1)).trans (hb3.mono (by omega))).trans (hb4.mono (by omega))
  obtain ⟨a, ha'⟩ : ∃ a, PS ns = a := ⟨_, rfl⟩
  obtain ⟨b, hb'⟩ : ∃ b, PS ms = b := ⟨_, rfl⟩
  have hba := bd_PS ns
  have hla := length_PS ns
  have hbb := bd_PS ms
  have hlb := length_PS ms
  rw [ha'] at ha4 hb4' hba hla
  rw [hb'] at hx hy hbb hlb
  clear ha hb ha' hb' hb1 hb2 hb3 hb4 hm hm1 hm2 hl hd1 hd2
  obtain ⟨ga, ca, rfl, hca, _, hra⟩ := ha4.lay hn1
  obtain ⟨gb, cb, rfl, hcb, _, hrb⟩ := hb4'.lay hn2
  obtain ⟨gx, cx, rfl, hcx, _, hrx⟩ := hx.lay hn3
  obtain ⟨gy, cy, rfl, hcy, _, hry⟩ := hy.lay hn4
  have HOa := Lib.hid ha4
  have HOb := Lib.hid hb4'
  clear hy hx ha4 hb4'
  go_wp2_with fail
  refine (setDiff_any w4.heap.size (some ⟨ga, 0, none⟩) a.length ca a (some ⟨gx, 0, none⟩) b.length cx b _ hra hrx (Nat.le_refl _) rfl (by omega) hba rfl (by omega) hbb).mono ?_
  rintro e w5 ⟨v5, S, rfl, hSok, hSg, h5, hb5⟩
  have hS := diff_less hba hbb hSok hSg
  subst hS
  have hlS := length_lessL a b
  have hz5 := hb5.size
  have hrb5 := (hrb.below hb5).more hz5
  have hrx5 := (hrx.below hb5).more hz5
  have hry5 := (hry.below hb5).more hz5
  have HOa5 := Lib.hid (HOa.out.below hb5)
  have HOb5 := Lib.hid (HOb.out.below hb5)
  obtain ⟨A5, c5, e5, r5⟩ := h5.form
  subst e5
  have hbel5 := hbel.trans (hb5.mono hbel.size)
  have hbl := (ok_lessL b hba).2.2
  clear hb5 hra hrb hrx hry h5 hbel hSok hSg HOa HOb
  go_wp2_with fail
  refine (setUpdate_any w5.heap.size A5 (lessL a b).length c5 (lessL a b) (some ⟨gx, 0, none⟩) b.length cx b _ r5 hrx5 (Nat.le_refl _) rfl (by omega) hbl rfl (by omega) hbb).mono ?_
  rintro e w6 ⟨v6, ch, S, rfl, _, hSok, hSg, h6, hb6⟩
  have hS := less_update_sorted hba hbb hSok hSg
  subst hS
  have hz6 := hb6.size
  have r6 := (r5.below hb6).more hz6
  have hrb6 := (hrb5.below hb6).more hz6
  have hry6 := (hry5.below hb6).more hz6
  have HOa6 := Lib.hid (HOa5.out.below hb6)
  have HOb6 := Lib.hid (HOb5.out.below hb6)
  obtain ⟨A6, c6, e6, q6⟩ := h6.form
  subst e6
  have hbel6 := hbel5.trans (hb6.mono hbel5.size)
  clear hb6 r5 hrb5 hrx5 hry5 h6 hbel5 hSok hSg HOa5 HOb5
  go_wp2_with fail
  refine (less_any w6.heap.size (some ⟨gb, 0, none⟩) a.length cb a (some ⟨gy, 0, none⟩) b.length cy b _ hrb6 hry6 (Nat.le_refl _) rfl (by omega) hba rfl (by omega) hbb).mono ?_
  rintro e w7 ⟨v7, rfl, h7, hb7⟩
  have hz7 := hb7.size
  obtain ⟨A7, c7, e7, q7⟩ := h7.form
  subst e7
  have r7 := (r6.below hb7).more hz7
  have hq6 := (q6.below hb7).more hz7
  have hrb7 := (hrb6.below hb7).more hz7
  have hry7 := (hry6.below hb7).more hz7
  have HOa7 := Lib.hid (HOa6.out.below hb7)
  have HOb7 := Lib.hid (HOb6.out.below hb7)
  have hbel7 := hbel6.trans (hb7.mono hbel6.size)
  clear hb7 r6 q6 hrb6 hry6 h7 hbel6 HOa6 HOb6
  go_wp2_with fail
  refine (setIs_same w7.heap.size A5 (lessL a b).length c5 A7 c7 (lessL a b) w7 r7 q7 rfl (by omega)).mono ?_
  rintro e w8 ⟨rfl, hb8⟩
  have hz8 := hb8.size
  have q8 := (hq6.below hb8).more hz8
  have hrb8 := (hrb7.below hb8).more hz8
  have hry8 := (hry7.below hb8).more hz8
  have HOa8 := Lib.hid (HOa7.out.below hb8)
  have HOb8 := Lib.hid (HOb7.out.below hb8)
  have hbel8 := hbel7.trans (hb8.mono hbel7.size)
  have HE0 := Lib.hid (own_empty w8 w8 w8.heap.size 46 rfl (Nat.le_refl _))
  have HZ8 : Hid (w8.heap.size ≤ (w8.alloc (.cells #[] 46)).heap.size) := Lib.hid (by simp)
  have HB0 := Lib.hid (hrb8.alloc (.cells #[] 46) (Nat.le_refl _))
  have HY0 := Lib.hid (hry8.alloc (.cells #[] 46) (Nat.le_refl _))
  have HL0 := Lib.hid (show a.length < 4294967296 by omega)
  have HLb := Lib.hid (show b.length < 4294967296 by omega)
  have HL1 := Lib.hid (show ([] ++ a).length < 4294967296 by simp; omega)
  clear hb8 r7 q7 hq6 hrb7 hry7 hbel7 HOa7 HOb7
  go_wp2_with (first
    | (at_builtin; refine wpList_appG _ (by rfl) (.tmp 52) (.tmp 53) 31 46 rfl Try.underlying31 info46 w8.heap.size (.slice (some ⟨w8.heap.size, 0, none⟩) 0 0) [] rfl HE0.out w8.heap.size (some ⟨gb, 0, none⟩) a a.length cb rfl rfl HB0.out (fun h => by cases h) (by decide) HL0.out HZ8.out ?_; intro v9 w9 h9 g9 _ _; have HZ9 := Lib.hid (Nat.le_trans HZ8.out g9.size); have HY1 := Lib.hid (HY0.out.grown g9 HZ8.out (fun q hq => by cases hq; exact Nat.le_refl _)); have H9 := Lib.hid h9; clear h9)
    | (at_builtin; refine wpList_appG _ (by rfl) (.tmp 54) (.tmp 55) 31 46 rfl Try.underlying31 info46 w8.heap.size v9 ([] ++ a) rfl H9.out w8.heap.size (some ⟨gy, 0, none⟩) b b.length cy rfl rfl HY1.out (fun h => by cases h) HL1.out HLb.out HZ9.out ?_; intro v10 w10 h10 g10 _ _))
  have bel10 : Below w8.heap.size w8 w10 := (((Below.refl w8.heap.size w8).alloc (Nat.le_refl _) (.cells #[] 46)).grown g9 HZ8.out (fun q hq => by cases hq; exact Nat.le_refl _)).grown g10 HZ9.out H9.out.own_le
  rw [List.nil_append] at h10
  obtain ⟨A10, c10, e10, r10⟩ := h10.form
  subst e10
  have hz10 := bel10.size
  have q10 := (q8.below bel10).more hz10
  have HOa10 := Lib.hid (HOa8.out.below bel10)
  have HOb10 := Lib.hid (HOb8.out.below bel10)
  have hbel10 := hbel8.trans (bel10.mono hbel8.size)
  clear g9 g10 HE0 HZ8 HB0 HY0 HZ9 HY1 H9 h10 bel10 hbel8 q8 hrb8 hry8 HOa8 HOb8
  refine (sorted_any w10.heap.size A10 (a ++ b).length c10 (a ++ b) _ r10 (Nat.le_refl _) rfl (by simp; omega) (bd_append hba hbb)).mono ?_
  rintro e w11 ⟨v11, rfl, h11, hb11⟩
  obtain ⟨A11, c11, e11, r11⟩ := h11.form
  subst e11
  have hz11 := hb11.size
  have q11 := (q10.below hb11).more hz11
  have HOa11 := Lib.hid (HOa10.out.below hb11)
  have HOb11 := Lib.hid (HOb10.out.below hb11)
  have hbel11 := hbel10.trans (hb11.mono hbel10.size)
  have hLen := length_sorted_append a b
  clear h11 hb11 r10 q10 hbel10 HOa10 HOb10
  go_wp2_with fail
  refine (setIs_same w11.heap.size A6 (sortedL (a ++ b)).length c6 A11 c11 (sortedL (a ++ b)) w11 q11 r11 rfl (by omega)).mono ?_
  rintro e w12 ⟨rfl, hb12⟩
  have HOa12 := Lib.hid ((HOa11.out.below hb12).alloc (.cells #[.int .u32 1073741824, .int .u16 1] 43))
  have HOb12 := Lib.hid ((HOb11.out.below hb12).alloc (.cells #[.int .u32 1073741824, .int .u16 1] 43))
  have hbel12 := hbel11.trans (hb12.mono hbel11.size)
  have hz12 := hb12.size
  have HX := Lib.hid (row_one w12 43 1073741824 1)
  clear hb12 q11 r11 hbel11 HOa11 HOb11
  have HZ12 : Hid (w1.heap.size ≤ (w12.alloc (.cells #[.int .u32 1073741824, .int .u16 1] 43)).heap.size) := Lib.hid (by simp; omega)
  have hzw1 : w.heap.size ≤ w1.heap.size := hz1
  go_wp2_with (at_builtin; refine wpList_appG _ (by rfl) (.tmp 61) (.tmp 63) 30 43 rfl Try.underlying30 info43 w1.heap.size (.slice (some ⟨ga, 0, none⟩) a.length ca) a rfl HOa12.out (w12.heap.size + 1) (some ⟨w12.heap.size, 0, none⟩) [(1073741824, 1)] 1 1 rfl rfl HX.out (fun h => by cases h) HL0.out (by decide) HZ12.out ?_; intro v13 w13 h13 g13 _ _)
  have hbel12a := hbel12.alloc hbel12.size (.cells #[.int .u32 1073741824, .int .u16 1] 43)
  have hbel13 := hbel12a.grown g13 hbel12a.size (fun q hq => Nat.le_trans hzw1 (HOa12.out.own_le q hq))
  have HOb13 := Lib.hid (HOb12.out.kept g13 (own_apart HOb12.out HOa12.out (by decide)))
  obtain ⟨A13, c13, e13, r13⟩ := h13.form
  subst e13
  have hz13 : w1.heap.size ≤ w13.heap.size := Nat.le_trans HZ12.out g13.size
  have hbm := bd_more hba (show 1073741824 < 4294967296 by decide) (show 1 < 65536 by decide)
  have HLm : Hid ((a ++ [(1073741824, 1)]).length < 1073741824) := Lib.hid (by simp; omega)
  have HLm2 : Hid ((a ++ [(1073741824, 1)]).length < 2147483648) := Lib.hid (by simp; omega)
  clear hbel12 hbel12a h13 g13 HOa12 HOb12 HZ12 HX
  have T1 : 0 < 1073741824 := by omega
  have T2 : ([] : PL).length = 0 := List.length_nil
  have T3 := row_nil w13 w13.heap.size
  have HC := setDiff_any w13.heap.size A13 (a ++ [(1073741824, 1)]).length c13 (a ++ [(1073741824, 1)]) none 0 0 [] w13 r13 T3 (Nat.le_refl _) rfl HLm.out hbm T2 T1 bd_nil
  refine HC.mono ?_
  rintro e w14 ⟨v14, S, rfl, hSok, hSg, h14, hb14⟩
  have hS := diff_nil_sorted hbm hSok hSg
  subst hS
  obtain ⟨A14, c14, e14, r14⟩ := h14.form
  subst e14
  have HOb14 := Lib.hid ((HOb13.out.below hb14).alloc (.cells #[.int .u32 1073741824, .int .u16 1] 46))
  have hbel14 := hbel13.trans (hb14.mono hbel13.size)
  have hz14 := hb14.size
  have HX := Lib.hid (row_one w14 46 1073741824 1)
  have HR14 := Lib.hid (r14.alloc (.cells #[.int .u32 1073741824, .int .u16 1] 46) (Nat.le_refl _))
  have HZ14 : Hid (w1.heap.size ≤ (w14.alloc (.cells #[.int .u32 1073741824, .int .u16 1] 46)).heap.size) := Lib.hid (by simp; omega)
  have T4 : Hid ([((1073741824 : Nat), 1)].length < 4294967296) := Lib.hid (by simp)
  have HZ14' : Hid (w14.heap.size ≤ (w14.alloc (.cells #[.int .u32 1073741824, .int .u16 1] 46)).heap.size) := Lib.hid (by simp)
  have HGB : Hid (some gb = (Value.slice (some ⟨gb, 0, none⟩) a.length cb).ownBlock) := Lib.hid rfl
  have HG14 : Hid (∀ q, (Value.slice A14 (sortedL (a ++ [(1073741824, 1)])).length c14).ownBlock = some q → w13.heap.size ≤ q) := Lib.hid h14.own_le
  have HO14 := Lib.hid (h14.alloc (.cells #[.int .u32 1073741824, .int .u16 1] 46))
  clear hb14 hSok hSg h14 r13 r14 hbel13 HOb13
  go_wp2_with (at_builtin; refine wpList_appG _ (by rfl) (.tmp 66) (.tmp 68) 31 46 rfl Try.underlying31 info46 w1.heap.size (.slice (some ⟨gb, 0, none⟩) a.length cb) a rfl HOb14.out (w14.heap.size + 1) (some ⟨w14.heap.size, 0, none⟩) [(1073741824, 1)] 1 1 rfl rfl HX.out (fun h => by cases h) HL0.out T4.out HZ14.out ?_; intro v15 w15 h15 g15 _ _)
  have hbel14a := hbel14.alloc hbel14.size (.cells #[.int .u32 1073741824, .int .u16 1] 46)
  have hbel15 := hbel14a.grown g15 hbel14a.size (fun q hq => Nat.le_trans hzw1 (HOb14.out.own_le q hq))
  have HO15 := Lib.hid (HO14.out.kept g15 (own_apart HO14.out HOb14.out (by decide)))
  obtain ⟨A15, c15, e15, r15⟩ := h15.form
  subst e15
  obtain ⟨A', c', e', q15⟩ := HO15.out.form
  simp only [Value.slice.injEq] at e'
  obtain ⟨rfl, _, rfl⟩ := e'
  clear hbel14 hbel14a g15 h15 HOb14 HO14 HX HZ14 HZ14' HG14 HGB HR14
  have HC15 := sorted_any w15.heap.size A15 (a ++ [(1073741824, 1)]).length c15 (a ++ [(1073741824, 1)]) w15 r15 (Nat.le_refl _) rfl HLm2.out hbm
  refine HC15.mono ?_
  rintro e w16 ⟨v16, rfl, h16, hb16⟩
  obtain ⟨A16, c16, e16, r16⟩ := h16.form
  subst e16
  have hz16 := hb16.size
  have q16 := (q15.below hb16).more hz16
  have hbel16 := hbel15.trans (hb16.mono hbel15.size)
  have HLs : Hid ((sortedL (a ++ [(1073741824, 1)])).length < 2147483648) := Lib.hid (Nat.lt_of_le_of_lt (length_sortedL _) HLm2.out)
  clear h16 hb16 r15 q15 hbel15
  go_wp2_with fail
  have HC16 := setIs_same w16.heap.size A14 (sortedL (a ++ [(1073741824, 1)])).length c14 A16 c16 (sortedL (a ++ [(1073741824, 1)])) w16 q16 r16 rfl HLs.out
  refine HC16.mono ?_
  rintro e w17 ⟨rfl, hb17⟩
  have HF := Lib.hid (hbel16.trans (hb17.mono hbel16.size))
  clear hbel16 hb17 r16 q16
  go_wp2
  go_ret
  exact ⟨rfl, HF.out⟩

/-- FnDifference: true, whatever the input. -/
theorem fnDifference_all (A : Option Addr) (n c : Nat) (ns : List Nat) (A' : Option Addr) (n' c' : Nat) (ms : List Nat) (w : World) (hl : IsL w A n ns) (hm : IsL w A' n' ms) :
    Calls Try.prog 10 #[.slice A n c, .slice A' n' c'] w fun e w' => e = .returned (.bool true) ∧ Below w.heap.size w w' := by
  by_cases h : n ≤ 1000 ∧ n' ≤ 1000
  · exact fnDifference_few A n c ns A' n' c' ms w hl hm h.1 h.2
  · clear hl hm
    have hlong : 1000 < n ∨ 1000 < n' := by omega
    clear h
    by_cases h1 : 2147483647 < n
    · have hd1 : decide (2147483647 < (n : Int)) = true := by simp; omega
      clear hlong
      go_enter Try.func10, Try.ntmps10
      go_wp2_with fail
      go_ret
      exact ⟨rfl, Below.refl _ _⟩
    · have hd1 : decide (2147483647 < (n : Int)) = false := by simp; omega
      by_cases h2 : 2147483647 < n'
      · have hd2 : decide (2147483647 < (n' : Int)) = true := by simp; omega
        clear hlong
        go_enter Try.func10, Try.ntmps10
        go_wp2_with fail
        go_ret
        exact ⟨rfl, Below.refl _ _⟩
      · have hd2 : decide (2147483647 < (n' : Int)) = false := by simp; omega
        go_enter Try.func10, Try.ntmps10
        go_wp2_with fail
        refine (short_no _ _ _ _ _ _ _ hlong).mono ?_
        rintro e w' ⟨rfl, rfl⟩
        go_wp2
        go_ret
        exact ⟨rfl, Below.refl _ _⟩

end Go.Proofs.Ytmonokfibldghaa
