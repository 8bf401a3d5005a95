/- The walk of toldSet: a set as pairs, ascending; the library's sort by its contract. Conditions: lengths as stated. -/
import Derived.Test.YtmonokfibldghaaShelf
import Derived.Test.YtmonokfibldghaaSpec
import Derived.Test.YtmonokfibldghaaPairs
namespace Go.Proofs.Ytmonokfibldghaa
open Go.RowKit Go.Maps Pl
open Go.Sort (SWO PermIn SortedIn grow alloc_eq_grow grow_grow flatK size_flatK get_flatK HoldsK)

def encP (p : Nat × Nat) : List Value := [.int .u32 p.1, .int .u16 p.2]
def cfP (x y : Nat × Nat) : Int := if x.1 < y.1 then -1 else 1
theorem ltP (x y : Nat × Nat) : ltOf cfP x y = decide (x.1 < y.1) := by
  unfold ltOf cfP
  by_cases h : x.1 < y.1 <;> simp [h]
theorem swoP : SWO (ltOf cfP) where
  irrefl x := by rw [ltP]; simp
  trans x y z h1 h2 := by rw [ltP] at *; simp at *; omega
  ntrans x y z h1 h2 := by rw [ltP] at *; simp at *; omega

theorem closure39 (x y : Nat × Nat) (W : World) : Calls Try.prog 39 #[.agg #[.int .u32 x.1, .int .u16 x.2], .agg #[.int .u32 y.1, .int .u16 y.2]] W fun e w' => e = .returned (.int .i64 (cfP x y)) ∧ ∃ q os', w' = grow (W.drewN q) os' := by
  obtain ⟨x1, x2⟩ := x
  obtain ⟨y1, y2⟩ := y
  by_cases h : x1 < y1
  · have ht : decide (x1 < y1) = true := by simp; omega
    have HC := Lib.hid (show cfP (x1, x2) (y1, y2) = -1 by simp [cfP, h])
    clear h
    go_enter Try.func39, Try.ntmps39
    go_wp2
    go_ret
    exact ⟨by rw [HC.out]; rfl, 0, _, by rw [alloc_eq_grow, alloc_eq_grow, grow_grow]; rfl⟩
  · have ht : decide (x1 < y1) = false := by simp; omega
    have HC := Lib.hid (show cfP (x1, x2) (y1, y2) = 1 by simp [cfP, h])
    clear h
    go_enter Try.func39, Try.ntmps39
    go_wp2
    go_ret
    exact ⟨by rw [HC.out]; rfl, 0, _, by rw [alloc_eq_grow, alloc_eq_grow, grow_grow]; rfl⟩

theorem cmpLays39 (blk off size : Nat) (w : World) : CmpLays Try.prog 39 #[] encP 2 cfP blk off size w := fun _ _ _ _ x y => closure39 x y _
theorem isAgg43 : ∀ w, (isAgg (Try.sortP_ren.t 24)).run Try.prog w = .ok true w := fun _ => by kernel_rfl
theorem sizeOf43 : ∀ w, (Go.sizeOf (Try.sortP_ren.t 24)).run Try.prog w = .ok 2 w := fun _ => by kernel_rfl

/-! ### what the sort leaves -/
theorem flat_cells (d : Array (Nat × Nat)) : (flatK encP 2 d).toList = cellsP d.toList := by
  apply List.ext_getElem?
  intro t
  by_cases ht : t < d.size * 2
  · have h2 : t / 2 < d.size := by omega
    have hp : d.toList[t / 2]? = some d[t / 2] := by simp [h2]
    have hc := cellsP_at d.toList hp
    have hf : (flatK encP 2 d).toList[t]? = some ((encP d[t / 2]!)[t % 2]!) := by
      have := get_flatK encP 2 d t ht
      have hs : t < (flatK encP 2 d).size := by rw [size_flatK]; exact ht
      rw [getElem!_pos _ t hs] at this
      rw [← this]; simp
    rw [hf, getElem!_pos d (t / 2) h2]
    rcases Nat.mod_two_eq_zero_or_one t with h | h
    · rw [h]
      rw [show t / 2 * 2 = t by omega] at hc
      rw [hc.1]; rfl
    · rw [h]
      rw [show t / 2 * 2 + 1 = t by omega] at hc
      rw [hc.2]; rfl
  · rw [List.getElem?_eq_none (by simp; omega), List.getElem?_eq_none (by rw [length_cellsP]; simp; omega)]

theorem sortW_heap (w : World) (g n : Nat) (d : Array (Nat × Nat)) (os : Array Obj) (k : Nat) (hk : k < w.heap.size) :
    (sortWorldK encP 2 w g 0 n d os).heap[k]? = (w.heap.modify g (Go.Sort.onCells (Go.Sort.putCells id 0 (flatK encP 2 d))))[k]? := by
  show ((Go.Sort.mapBlock (Go.Sort.ahead w n) g (Go.Sort.putCells id 0 (flatK encP 2 d))).heap ++ os)[k]? = _
  have hs : k < (Go.Sort.mapBlock (Go.Sort.ahead w n) g (Go.Sort.putCells id 0 (flatK encP 2 d))).heap.size := by
    simp [Go.Sort.mapBlock, Go.Sort.ahead]; exact hk
  rw [Array.getElem?_append_left hs]
  rfl
theorem sortW_grown (w : World) (g n : Nat) (d : Array (Nat × Nat)) (os : Array Obj) : w.grownBy (sortWorldK encP 2 w g 0 n d os) (some g) := by
  refine ⟨rfl, rfl, rfl, size_sortWorldK_c encP 2 w g 0 n d os, fun k hk hne => ?_⟩
  rw [sortW_heap w g n d os k hk, Array.getElem?_modify, if_neg (fun e => hne (by rw [e]))]
theorem sortW_own {w : World} {base g c n : Nat} {S : PL} (h : OwnP 43 w base (.slice (some ⟨g, 0, none⟩) S.length c) S) (d : Array (Nat × Nat)) (os : Array Obj) (hd : d.size = S.length) :
    OwnP 43 (sortWorldK encP 2 w g 0 n d os) base (.slice (some ⟨g, 0, none⟩) S.length c) d.toList := by
  obtain ⟨h1, ⟨h2, _⟩ | ⟨g', cap, cur, h2, hb, hh, hn, hm, hs, ht⟩⟩ := h
  · cases h2
  · simp only [Value.slice.injEq, Option.some.injEq, Addr.mk.injEq, true_and, and_true] at h2
    obtain ⟨rfl, rfl⟩ := h2
    have hlt : g < w.heap.size := (Array.getElem?_eq_some_iff.1 hh).1
    have hl : d.toList.length = S.length := by simpa using hd
    refine ⟨length_cellsP _, .inr ⟨g, c, Go.Sort.putCells id 0 (flatK encP 2 d) cur, by rw [hl], hb, ?_, by omega, hm, by simp [Go.Sort.putCells, hs], ?_⟩⟩
    · rw [sortW_heap w g n d os g hlt, Array.getElem?_modify, if_pos rfl, hh]
      rfl
    · rw [hl, ← flat_cells]
      apply List.ext_getElem?
      intro t
      rw [List.getElem?_take]
      by_cases htl : t < S.length * 2
      · rw [if_pos htl]
        have h3 : t < cur.size := by rw [hs]; have := Nat.mul_le_mul_right 2 hn; omega
        have h4 : t < (flatK encP 2 d).size := by rw [size_flatK, hd]; exact htl
        simp [Go.Sort.putCells, h3]
        rw [if_pos (by omega), getElem!_pos _ t h4, Array.getElem?_eq_getElem h4]
      · rw [if_neg htl, List.getElem?_eq_none (by simp [hd]; omega)]

/-! ### the sort of nothing -/
theorem insertion_none (p : Option Addr) (cap : Nat) (fv : Value) (w : World) :
    Calls Try.prog 45 #[.slice p 0 cap, .int .i64 0, .int .i64 0, fv] w fun e w' => e = .returned (.tuple #[]) ∧ w = w' := by
  go_enter Try.func45, Try.ntmps45
  go_wp2
  refine wp_loop_rounds 1 ?_
  rw [rounds_succ]
  go_wp2
  go_end0
  exact ⟨rfl, rfl⟩
theorem pdq_none (p : Option Addr) (cap : Nat) (lim : Int) (fv : Value) (w : World) :
    Calls Try.prog 43 #[.slice p 0 cap, .int .i64 0, .int .i64 0, .int .i64 lim, fv] w fun e w' => e = .returned (.tuple #[]) ∧ w = w' := by
  go_enter Try.func43, Try.ntmps43
  go_wp2
  refine wp_loop_rounds 1 ?_
  rw [rounds_succ]
  go_wp2_with (go_at_call 45; refine (insertion_none _ _ _ _).mono ?_; rintro e w' ⟨rfl, rfl⟩)
  (try simp only [Exit.inBlock, Exit.then]); refine bodyPost_ret (results_none rfl _ _ _) rfl ?_
  exact ⟨rfl, rfl⟩

theorem len_none (w : World) : Calls Try.prog 44 #[.int .u64 0] w fun e w' => (∃ l : Int, e = .returned (.int .i64 l)) ∧ w = w' :=
  (Any.bits_Len (SlLaysF0.n15.bits (P := Try.prog) (ρ := Try.sortP_ren) { Try.sortP with }) 0 w (by omega) (by omega)).mono fun _ _ ⟨he, hw⟩ => ⟨⟨_, he⟩, hw.symm⟩
theorem sort_none (p : Option Addr) (cap : Nat) (fv : Value) (w : World) : Calls Try.prog 38 #[.slice p 0 cap, fv] w fun e w' => e = .returned (.tuple #[]) ∧ w = w' := by
  go_enter Try.func38, Try.ntmps38
  go_wp2_with fail
  refine (len_none _).mono ?_
  rintro e w' ⟨⟨l, rfl⟩, rfl⟩
  go_wp2_with fail
  refine (pdq_none _ _ _ _ _).mono ?_
  rintro e w' ⟨rfl, rfl⟩
  go_wp2
  go_end0
  exact ⟨rfl, rfl⟩

/-- slices.SortFunc at pairs: the same pairs, ascending. -/
theorem sort_some (g c base : Nat) (S L : PL) (w : World) (h : OwnP 43 w base (.slice (some ⟨g, 0, none⟩) S.length c) S) (hp : S.Perm L) (hL : Asc L) (hn : S.length < 4294967296) :
    Calls Try.prog 38 #[.slice (some ⟨g, 0, none⟩) S.length c, .func (.func 39) #[] #[]] w fun e w' => e = .returned (.tuple #[]) ∧ OwnP 43 w' base (.slice (some ⟨g, 0, none⟩) S.length c) L ∧ w.grownBy w' (some g) := by
  have eg : ∀ args w, (callFunc 39 args).run Try.prog w = .ok (.enter 39 args) w := enters_of Try.func39 (by kernel_rfl) rfl
  have hlt : g < w.heap.size := (World.ownsRow.lt h g rfl).2
  have hH : HoldsK encP 2 w g 0 S.toArray := by
    intro j hj
    rw [size_flatK] at hj
    have hj' : j < S.length * 2 := by simpa using hj
    constructor
    · rw [Nat.zero_add, World.ownsRow.cellAt h j hj']
      have h4 : j < (flatK encP 2 S.toArray).size := by rw [size_flatK]; exact hj
      rw [id, getElem!_pos _ j h4, ← Array.getElem?_eq_getElem h4, ← Array.getElem?_toList, flat_cells]
    · rw [Nat.zero_add]; exact World.ownsRow.frozenAt h j
  have hcon := AnyQ.slices_SortFunc Try.sortP 2 isAgg43 sizeOf43 encP (fun _ => rfl) (fun x v hv => by simp [encP] at hv; rcases hv with rfl | rfl <;> rfl) cfP swoP 39 #[] g 0 c S.toArray w eg (cmpLays39 g 0 _ w) hH hlt (by simp; omega)
  have hcon' : Calls Try.prog 38 #[.slice (some ⟨g, 0, none⟩) S.length c, .func (.func 39) #[] #[]] w _ := hcon
  refine hcon'.mono fun e w' hew => ?_
  obtain ⟨he, d', n, os, hpm, hsd, rfl⟩ := hew
  have hsz : d'.size = S.length := by simpa using hpm.1
  have hta : S.toArray.size = S.length := by simp
  have hperm : d'.toList.Perm S := by
    have := hpm.2.2
    rw [Array.extract_eq_self_of_le (by omega), Array.extract_eq_self_of_le (by simp)] at this
    simpa using this
  have hPL := hperm.trans hp
  have nd : ∀ {l : PL}, Asc l → l.Nodup := fun hl => List.Pairwise.imp (fun {p q} hpq e => by subst e; omega) hl
  have hdl : d'.toList = L := by
    have hasc : Asc d'.toList := by
      refine List.pairwise_iff_getElem.2 fun i j hi hj hij => ?_
      have hi' : i < d'.size := by simpa using hi
      have hj' : j < d'.size := by simpa using hj
      have h1 := hsd i j (Nat.zero_le _) hij (by rw [hta]; omega)
      rw [ltP, getElem!_pos d' j hj', getElem!_pos d' i hi'] at h1
      have h2 : ¬ (d'[j]).1 < (d'[i]).1 := by simpa using h1
      have h3 : (d'[i]).1 ≠ (d'[j]).1 := by
        intro e
        have m1 : d'[i] ∈ L := hPL.mem_iff.1 (by simp)
        have m2 : d'[j] ∈ L := hPL.mem_iff.1 (by simp)
        have g1 := get_of_mem hL (i := (d'[i]).1) (v := (d'[i]).2) m1
        have g2 := get_of_mem hL (i := (d'[j]).1) (v := (d'[j]).2) m2
        rw [e, g2] at g1
        have hnd := (hPL.nodup_iff).2 (nd hL)
        have := List.pairwise_iff_getElem.1 hnd i j hi hj hij
        exact this (by simp; exact Prod.ext e g1.symm)
      simp
      omega
    exact asc_ext hasc hL fun q => hPL.mem_iff
  have hown := sortW_own (n := n) h d' os hsz
  rw [hdl] at hown
  exact ⟨he, hown, sortW_grown w g n d' os⟩

end Go.Proofs.Ytmonokfibldghaa
