/- What the walks of the statements on sets share. Conditions: lengths as stated. -/
import Derived.Test.YtmonokfibldghaaImpl
import Derived.Test.YtmonokfibldghaaEqual
import Derived.Test.YtmonokfibldghaaArgs
namespace Go.Proofs.Ytmonokfibldghaa
open Go.RowKit Go.Maps Pl

section
variable (w : World) {ops : Array Oper} {rest : List Oper} {o : Oper} {a : Act} {Q : Exit → Act → World → Prop}
/-- append of a list of pairs at a guarded operation whose guard stands open. -/
theorem wpList_appG (hw : Region.wanted o (yielded ops a.tmps) = true) (s x : Operand) (t e : TypeId) (ho : o.op = .call { callee := .builtin .append, args := #[s, x], argTypes := #[t, t] }) (ht : Try.prog.underlying t = some (.slice e))
    (hinfo : (Try.prog.info? e).map (fun i => (i.zero, i.size, i.bytes)) = some (some (.agg #[.int .u32 0, .int .u16 0]), 2, 8))
    (base : Nat) (v : Value) (l : PL) (hs : a.eval s = v) (hown : OwnP e w base v l) (B : Nat) (A : Option Addr) (r : PL) (m c : Nat) (hx : a.eval x = .slice A m c) (hm : m = r.length) (hr : RowP w B A r) (hnone : A = none → c = 0)
    (hlen : l.length < 4294967296) (hlen' : r.length < 4294967296) (hbase : base ≤ w.heap.size)
    (h : ∀ v' w', OwnP e w' base v' (l ++ r) → w.grownBy w' v.ownBlock → (v'.ownBlock = v.ownBlock ∨ v'.ownBlock = some w.heap.size) → (v ≠ .slice none 0 0 → v' ≠ .slice none 0 0) → wpList Try.prog ops Q rest (a.put o.dst v') w') : wpList Try.prog ops Q (o :: rest) a w :=
  wpList_step fun _ hK => step_appG w hw s x t e ho ht hinfo base v l hs hown B A r m c hx hm hr hnone hlen hlen' hbase fun v' w' h2 h3 h4 h5 => hK _ _ (h v' w' h2 h3 h4 h5)
end

/-- A set with a register more is another set. -/
theorem setL_other {a : PL} (ha : Bd a) (hlt : ∀ p ∈ a, p.1 < 524288) : ¬ setL (setL a) = setL (setL a ++ [(1073741824, 1)]) := by
  have hok := ok_setL ha
  have hb : Bd (setL a ++ [(1073741824, 1)]) := fun p hp => by
    rcases List.mem_append.1 hp with h | h
    · exact hok.2.2 p h
    · simp at h; subst h; exact ⟨by decide, by decide⟩
  rw [setL_congr hok.2.2 hb]
  intro h
  have h1 := h 1073741824
  rw [hasm_append, hasm_asc hok.1, get_setL ha] at h1
  have h0 : hasm a 1073741824 = 0 := by
    have aux : ∀ l : PL, (∀ p ∈ l, p.1 < 524288) → hasm l 1073741824 = 0 := by
      intro l
      induction l using snoc_ind with
      | h0 => intro _; rfl
      | h1 l x ih =>
        intro hl
        rw [hasm_snoc, if_neg (by have := hl x (by simp); omega)]
        exact ih fun p hp => hl p (by simp [hp])
    exact aux a hlt
  rw [h0] at h1
  simp [hasm] at h1
theorem bd_more {l : PL} (h : Bd l) {i m : Nat} (hi : i < 4294967296) (hm : m < 65536) : Bd (l ++ [(i, m)]) := fun p hp => by
  rcases List.mem_append.1 hp with h1 | h1
  · exact h p h1
  · simp at h1; subst h1; exact ⟨hi, hm⟩

theorem OwnP.own_le {e : TypeId} {w : World} {base : Nat} {v : Value} {l : PL} (h : OwnP e w base v l) : ∀ q, v.ownBlock = some q → base ≤ q := fun q hq => by
  obtain ⟨_, ⟨rfl, _⟩ | ⟨g, cap, cur, rfl, hb, _⟩⟩ := h
  · simp [Value.ownBlock] at hq
  · simp [Value.ownBlock] at hq; omega

set_option maxHeartbeats 1000000 in
set_option maxRecDepth 100000 in
theorem fnSetOf_few (A : Option Addr) (n c : Nat) (ns : List Nat) (w : World) (hl : IsL w A n ns) (h : n ≤ 1000) :
    Calls Try.prog 8 #[.slice A n c] w fun e w' => e = .returned (.bool true) ∧ Below w.heap.size w w' := by
  have hd1 : decide (2147483647 < (n : Int)) = false := by simp; omega
  go_enter Try.func8, Try.ntmps8
  go_wp2_with fail
  refine (short_yes _ _ _ _ _ _ _ h (by decide)).mono ?_
  rintro e w' ⟨rfl, rfl⟩
  go_wp2_with fail
  refine (nonzero_any A n c ns _ hl.1 (by omega) hl.2.1 hl.2.2).mono ?_
  rintro e w1 ⟨v, rfl, hvn, hv, hb1⟩
  obtain ⟨g, cv, rfl, hgc, hg, hN, hNb, hNc⟩ := handed hv hvn hl.1 hl.2.1
  have hz1 := hb1.size
  clear hv hvn
  go_wp2_with fail
  refine (setOf_any g cv (ns.map nzN) n _ hN hgc hNb hg hNc).mono ?_
  rintro e w2 ⟨v1, v2, rfl, hn1, hn2, ha, hb, hb2⟩
  change OwnP 43 w2 w1.heap.size v1 (PS ns) at ha
  change OwnP 46 w2 w1.heap.size v2 (PS ns) at hb
  have hz2 := hb2.size
  clear hN hgc hNb hg hNc
  obtain ⟨a, ha'⟩ : ∃ a, PS ns = a := ⟨_, rfl⟩
  have hba := bd_PS ns
  have hla := length_PS ns
  have hlt := PS_fst_lt ns
  rw [ha'] at ha hb hba hla hlt
  obtain ⟨ga, ca, rfl, hca, _, hra⟩ := ha.lay hn1
  obtain ⟨gb, cb, rfl, hcb, _, hrb⟩ := hb.lay hn2
  have HQ := Lib.hid (decide_eq_false (setL_other hba hlt))
  have hbel : Below w.heap.size w w2 := hb1.trans (hb2.mono hz1)
  have hlb := length_setL a
  clear ha' ha hb hb1 hb2 hl hd1 hlt
  go_wp2_with fail
  refine (setOfP_any w2.heap.size (some ⟨ga, 0, none⟩) a.length ca a _ hra (Nat.le_refl _) rfl (by omega) hba).mono ?_
  rintro e w3 ⟨v3, rfl, h3, hb3⟩
  have hz3 := hb3.size
  have hra3 := (hra.below hb3).more hz3
  have hrb3 := (hrb.below hb3).more hz3
  have hbel3 := hbel.trans (hb3.mono (by omega))
  go_wp2_with fail
  refine (sorted_any w3.heap.size (some ⟨gb, 0, none⟩) a.length cb a _ hrb3 (Nat.le_refl _) rfl (by omega) hba).mono ?_
  rintro e w4 ⟨v4, rfl, h4, hb4⟩
  rw [← setL_eq_sorted hba] at h4
  have hz4 := hb4.size
  have hra4 := (hra3.below hb4).more hz4
  have hbel4 := hbel3.trans (hb4.mono (by have := hbel3.size; omega))
  obtain ⟨A3, c3, e3, r3⟩ := (h3.below hb4).form
  obtain ⟨A4, c4, e4, r4⟩ := h4.form
  subst e3 e4
  go_wp2_with fail
  refine (setIs_same w4.heap.size A3 (setL a).length c3 A4 c4 (setL a) _ r3 r4 rfl (by omega)).mono ?_
  rintro e w5 ⟨rfl, hb5⟩
  have hz5 := hb5.size
  have hra5 := (hra4.below hb5).more hz5
  have hbel5 := hbel4.trans (hb5.mono (by have := hbel4.size; omega))
  clear r3 r4 h3 h4 hb3 hb4 hb5 hra hra3 hra4 hrb hrb3 hbel hbel3 hbel4
  go_wp2_with fail
  refine (setOfP_any w5.heap.size (some ⟨ga, 0, none⟩) a.length ca a _ hra5 (Nat.le_refl _) rfl (by omega) hba).mono ?_
  rintro e w6 ⟨v6, rfl, h6, hb6⟩
  have hz6 := hb6.size
  have hra6 := (hra5.below hb6).more hz6
  have hbel5' := hbel5.trans (hb6.mono (by have := hbel5.size; omega))
  go_wp2_with fail
  refine (setOfP_any w6.heap.size (some ⟨ga, 0, none⟩) a.length ca a _ hra6 (Nat.le_refl _) rfl (by omega) hba).mono ?_
  rintro e w7 ⟨v7, rfl, h7, hb7⟩
  have hz7 := hb7.size
  have hbel6 := hbel5'.trans (hb7.mono (by have := hbel5'.size; omega))
  clear hb6 hra5 hra6 hbel5
  have HG := Lib.hid h7.own_le
  have HL := Lib.hid (show (setL a).length < 4294967296 by omega)
  have HX := Lib.hid (row_one w7 43 1073741824 1)
  have HB6 : Hid (w6.heap.size ≤ (w7.alloc (.cells #[.int .u32 1073741824, .int .u16 1] 43)).heap.size) := Lib.hid (by simp; omega)
  have H7 := Lib.hid h7
  obtain ⟨A6, c6, e6, r6⟩ := h6.form
  subst e6
  have R6 := Lib.hid ((r6.below hb7).alloc (.cells #[.int .u32 1073741824, .int .u16 1] 43) hz7)
  clear h7 h6 hb7 r6
  go_wp2_with (at_builtin; refine wpList_appG _ (by rfl) (.tmp 26) (.tmp 28) 30 43 rfl Try.underlying30 info43 w6.heap.size v7 (setL a) rfl (H7.out.alloc _) (w7.heap.size + 1) (some ⟨w7.heap.size, 0, none⟩) [(1073741824, 1)] 1 1 rfl rfl HX.out (fun h => by cases h) HL.out (by decide) HB6.out ?_; intro v8 w8 h8 g8 _ _)
  have r8 := R6.out.grown g8 HB6.out HG.out
  have hz8 := g8.size
  have hbk := (hbel6.alloc (by have := hbel6.size; omega) (.cells #[.int .u32 1073741824, .int .u16 1] 43)).grown g8 (by have := hbel6.size; simp; omega) (fun q hq => by have := HG.out q hq; have := hbel5'.size; omega)
  have hB8 : w6.heap.size ≤ w8.heap.size := by have := HB6.out; omega
  obtain ⟨A8, c8, e8, r9⟩ := h8.form
  subst e8
  have HC := setEqual_any w8.heap.size A6 (setL a).length c6 (setL a) A8 (setL a ++ [(1073741824, 1)]).length c8 (setL a ++ [(1073741824, 1)]) _ (r8.more hB8) r9 (Nat.le_refl _) rfl (by omega) (ok_setL hba).2.2 rfl (by simp; omega) (bd_more (ok_setL hba).2.2 (by decide) (by decide))
  rw [HQ.out] at HC
  refine HC.mono ?_
  rintro e w9 ⟨rfl, hb9⟩
  have HF := Lib.hid (hbk.trans (hb9.mono (by have := hbk.size; omega)))
  clear hbk hb9
  go_wp2
  go_ret
  exact ⟨rfl, HF.out⟩

theorem fnSetOf_all (A : Option Addr) (n c : Nat) (ns : List Nat) (w : World) (hl : IsL w A n ns) :
    Calls Try.prog 8 #[.slice A n c] w fun e w' => e = .returned (.bool true) ∧ Below w.heap.size w w' := by
  by_cases h : n ≤ 1000
  · exact fnSetOf_few A n c ns w hl h
  · clear hl
    have hlong : 1000 < n ∨ 1000 < 0 := by omega
    clear h
    by_cases h1 : 2147483647 < n
    · have hd1 : decide (2147483647 < (n : Int)) = true := by simp; omega
      clear hlong
      go_enter Try.func8, Try.ntmps8
      go_wp2_with fail
      go_ret
      exact ⟨rfl, Below.refl _ _⟩
    · have hd1 : decide (2147483647 < (n : Int)) = false := by simp; omega
      go_enter Try.func8, Try.ntmps8
      go_wp2_with fail
      refine (short_no _ _ _ _ _ _ _ hlong).mono ?_
      rintro e w' ⟨rfl, rfl⟩
      go_wp2
      go_ret
      exact ⟨rfl, Below.refl _ _⟩

end Go.Proofs.Ytmonokfibldghaa
