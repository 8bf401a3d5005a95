/- Walks of toldSet, Discard, Update, Clone, Difference, OfKind and of the thin package's functions on sets; and of setIs. Conditions: lengths as stated. -/
import Derived.Test.YtmonokfibldghaaTold
import Derived.Test.YtmonokfibldghaaLess
namespace Go.Proofs.Ytmonokfibldghaa
open Go.RowKit Go.Maps Pl

/-! ### what a loop over a set has laid into a list -/
def SeenAll (L S : PL) (left : Lit → Bool) : Prop := S.Nodup ∧ ∀ q : Nat × Nat, q ∈ S ↔ q ∈ L ∧ left (.int .u32 (q.1 : Nat)) = false
theorem nodup_asc {l : PL} (hl : Asc l) : l.Nodup := List.Pairwise.imp (fun {p q} hpq e => by subst e; omega) hl
theorem SeenAll.start (L : PL) : SeenAll L [] (Maps.has (DL (H := Unit) L)) := ⟨List.Pairwise.nil, fun q => by
  constructor
  · intro h; cases h
  · rintro ⟨h1, h3⟩; rw [has_DL, has_of_mem (v := q.2) h1] at h3; cases h3⟩
theorem SeenAll.more {L S : PL} {left : Lit → Bool} {i : Nat} (hL : Asc L) (h : SeenAll L S left) (hi : hasL L i = true) (hli : left (.int .u32 i) = true) : SeenAll L (S ++ [(i, getL L i)]) (fun z => left z && !z.sameKey (.int .u32 i)) := by
  have hmem : ∀ q : Nat × Nat, q ∈ S → q.1 ≠ i := fun q hq e => by
    have := ((h.2 q).1 hq).2
    rw [e, hli] at this; cases this
  refine ⟨?_, fun q => ?_⟩
  · refine List.nodup_append.2 ⟨h.1, by simp, fun x hx y hy e => ?_⟩
    simp at hy
    exact hmem x hx (by rw [e, hy])
  · rw [List.mem_append, List.mem_singleton, h.2 q]
    simp only [sameKey_u32]
    by_cases e : q.1 = i
    · constructor
      · rintro (⟨h1, _⟩ | rfl)
        · exact ⟨h1, by simp [e]⟩
        · exact ⟨mem_of_has hi, by simp⟩
      · rintro ⟨h1, _⟩
        have := get_of_mem hL (i := q.1) (v := q.2) h1
        rw [e] at this
        exact .inr (Prod.ext e this.symm)
    · have hne : q ≠ (i, getL L i) := fun h => e (by rw [h])
      simp [e, hne]
theorem SeenAll.perm {L S : PL} {left : Lit → Bool} (hL : Asc L) (h : SeenAll L S left) (hl : ∀ i : Nat, left (.int .u32 i) = false) : S.Perm L :=
  (List.perm_ext_iff_of_nodup h.1 (nodup_asc hL)).2 fun q => by rw [h.2 q, hl]; simp
theorem SeenAll.length_le {L S : PL} {left : Lit → Bool} (h : SeenAll L S left) : S.length ≤ L.length :=
  (List.subset_length_aux h.1 fun q hq => ((h.2 q).1 hq).1)
where
  List.subset_length_aux : ∀ {S L : PL}, S.Nodup → (∀ q ∈ S, q ∈ L) → S.length ≤ L.length := by
    intro S
    induction S with
    | nil => intro L _ _; simp
    | cons x r ih =>
      intro L hn hs
      have hc := List.nodup_cons.1 hn
      have hx := hs x (List.mem_cons_self ..)
      have := ih (L := L.erase x) hc.2 fun q hq => by
        have hne : q ≠ x := fun e => hc.1 (e ▸ hq)
        exact (List.mem_erase_of_ne hne).2 (hs q (List.mem_cons_of_mem _ hq))
      rw [List.length_erase_of_mem hx] at this
      have : 0 < L.length := List.length_pos_of_mem hx
      simp; omega

set_option maxHeartbeats 400000 in
set_option maxRecDepth 100000 in
/-- toldSet: the set's pairs, ascending. -/
theorem told_any (b n : Nat) (L : PL) (w : World) (hs : IsM 68 w b n L) (hn : n < 2147483648) (hL : Asc L) :
    Calls Try.prog 32 #[.map (some b)] w fun e w' => ∃ v, e = .returned v ∧ OwnP 43 w' w.heap.size v L ∧ Below w.heap.size w w' := by
  have hll := hs.len_le
  go_enter Try.func32, Try.ntmps32
  go_wp2_with (first
    | (at_range; refine wpList_range _ rfl _ 64 68 rfl law68 Try.underlying64 b n L rfl hs ?_; intro w0 hrg0 hg0 hs0)
    | go_in)
  go_frame
  go_loopw [3] (fun v wr => ∃ (left : Lit → Bool) (cnt : Nat) (S : PL), IsR 68 wr b w.heap.size n L left cnt ∧ OwnP 43 wr w.heap.size v S ∧ SeenAll L S left ∧ Below w.heap.size w wr)
    (fun _ wr => wr.rangeLeft b w.heap.size)
  case atStart => exact ⟨_, _, [], hrg0, OwnP.nil _ _ _, SeenAll.start L, (Below.refl _ _).grown hg0 (Nat.le_refl _) (fun j hj => by cases hj)⟩
  case round =>
    obtain ⟨left, cnt, S, hrg, hown, hseen, hbel⟩ := hrel
    have hSl := hseen.length_le
    go_wp2_with (first
      | (at_next; refine wpList_next _ rfl _ rfl 68 law68 Try.underlying68 b w.heap.size n L left cnt rfl hrg ?_ ?_)
      | go_in)
    · intro hl0
      have hperm := hseen.perm hL hl0
      have hz := hbel.size
      obtain ⟨A, c, hv, _⟩ := hown.form
      by_cases h0 : S.length = 0
      · have hL0 : L = [] := by have := hperm.length_eq; exact List.eq_nil_of_length_eq_zero (by omega)
        have hown' : OwnP 43 wr w.heap.size (.slice A 0 c) L := by rw [← h0, ← hv, hL0]; rw [List.eq_nil_of_length_eq_zero h0] at hown; exact hown
        rw [h0] at hv
        subst hv
        go_wp2_with (go_at_call 38; refine (sort_none _ _ _ _).mono ?_; rintro e w' ⟨rfl, rfl⟩)
        go_ret
        exact ⟨_, rfl, hown', hbel⟩
      · obtain ⟨g, c', hv'⟩ : ∃ g c', u3 = .slice (some ⟨g, 0, none⟩) S.length c' := by
          rcases hown.2 with ⟨_, h2⟩ | ⟨g, cap, _, h1, _⟩
          · exact absurd h2 h0
          · exact ⟨g, cap, h1⟩
        clear hv
        subst hv'
        have hgb := (World.ownsRow.lt hown g rfl).1
        have HC := Lib.hid (sort_some g c' w.heap.size S L wr hown hperm hL (by omega))
        clear hown hseen hperm
        go_wp2_with fail
        refine HC.out.mono ?_
        rintro e w' ⟨rfl, h1, h2⟩
        have HL := Lib.hid h1
        have HB := Lib.hid (hbel.grown h2 hz (fun q hq => by cases hq; exact hgb))
        clear h1 h2
        go_wp2
        go_ret
        exact ⟨_, rfl, HL.out, HB.out⟩
    · intro i w1 cnt1 hi hi2 hli hrg1 hlt1 hg1 hs1 hen
      clear hs1
      have hbel1 := hbel.grown hg1 hbel.size (fun j hj => by cases hj; exact Nat.le_refl _)
      have hown1 : OwnP 43 w1 w.heap.size u3 S := hown.kept hg1 (.inr fun e => own_ne_iter hown hrg e.symm)
      obtain ⟨x, hx⟩ : ∃ x, getL L i = x := ⟨_, rfl⟩
      have HM := Lib.hid (hseen.more hL hi hli)
      have HX := Lib.hid hx
      rw [hx] at hen ⊢
      clear hx
      have hz1 := hbel1.size
      go_wp2_with (at_builtin; refine wpList_app _ rfl (.tmp 13) (.tmp 17) 30 43 rfl Try.underlying30 info43 w.heap.size u3 S rfl (hown1.alloc _) w1.heap.size 1 (i, x) rfl (new_cells _ _ _ _).1 (new_cells _ _ _ _).2 (by omega) (by simp; omega) ?_; intro v2 w2 h2 g2 ho2 _)
      have hgo := (World.grownBy_alloc w1 (.cells #[.int .u32 i, .int .u16 x] 43) u3.ownBlock).trans g2
      have F1 := Lib.hid (hrg1.kept hgo (fun e => own_ne_map hown1 hrg1.owns e) (fun e => own_ne_iter hown1 hrg1 e))
      have F2 := Lib.hid h2
      have F3 := Lib.hid ((hbel1.alloc hz1 (.cells #[.int .u32 i, .int .u16 x] 43)).grown g2 (by simp; omega) (fun q hq => (World.ownsRow.lt hown1 q hq).1))
      clear h2 g2 ho2 hgo
      go_roundw
      case rel => exact ⟨_, cnt1, _, F1.out, F2.out, by rw [HX.out] at HM; exact HM.out, F3.out⟩
      case measure => rw [World.ranges.left_eq F1.out, World.ranges.left_eq hrg]; exact hlt1

end Go.Proofs.Ytmonokfibldghaa
