/- The walk of the reference's Sorted. Conditions: lengths as stated. -/
import Derived.Test.YtmonokfibldghaaSpec
namespace Go.Proofs.Ytmonokfibldghaa
open Go.RowKit Go.Maps Pl

set_option maxHeartbeats 2000000 in
set_option maxRecDepth 100000 in
theorem sorted_any (B : Nat) (A : Option Addr) (n c : Nat) (l : PL) (w : World) (hr : RowP w B A l) (hB : B ≤ w.heap.size) (hln : l.length = n) (hn : n < 2147483648) (hl : Bd l) :
    Calls Try.prog 19 #[.slice A n c] w fun e w' => ∃ v, e = .returned v ∧ OwnP 46 w' w.heap.size v (sortedL l) ∧ Below w.heap.size w w' := by
  have hmm := @run_makeMap Try.prog
  go_enter Try.func19, Try.ntmps19
  go_wp2
  go_loopw [13] (fun i wr => ∃ k : Nat, k ≤ n ∧ i = .int .i64 k ∧ IsM 38 wr w.heap.size k (mapM (l.take k)) ∧ Below w.heap.size w wr) (fun i _ => n - (intOf i).toNat)
  case atStart => exact ⟨0, Nat.zero_le _, rfl, World.ownsMap_made _ _ _ _, (Below.refl _ _).alloc (Nat.le_refl _) _⟩
  case round =>
    obtain ⟨k, hk, rfl, hs, hnx⟩ := hrel
    by_cases hlt : k < n
    · obtain ⟨p, hp⟩ : ∃ p, l[k]? = some p := ⟨l[k]'(by omega), List.getElem?_eq_getElem (by omega)⟩
      have hpb := hl p (List.mem_of_getElem? hp)
      obtain ⟨blk, off, rfl, hblk, hcs⟩ := hr (by omega)
      have hc := hcs k p hp
      have hc0 : wr.cell? ⟨blk, off + k * 2, none⟩ = some (.int .u32 p.1) := (hnx.cell (p := ⟨blk, off + k * 2, none⟩) (by simp; omega)).trans hc.1
      have hc1 : wr.cell? ⟨blk, off + k * 2 + 1, none⟩ = some (.int .u16 p.2) := (hnx.cell (p := ⟨blk, off + k * 2 + 1, none⟩) (by simp; omega)).trans hc.2
      have HS := Lib.hid ((congrArg mapM (take_snoc hp)).trans (mapM_snoc (l.take k) p))
      have hml := get_bd (bd_mapM (bd_take hl k)) p.1
      have HO := Lib.hid (u16_or_nat (getL (mapM (l.take k)) p.1) p.2 hml hpb.2)
      have hol := or_lt16 hml hpb.2
      clear hcs hc hr hp
      obtain ⟨p1, p2⟩ := p
      have hz := hnx.size
      go_wp2_with (first
        | (at_lookup; refine wpList_look _ rfl _ _ 70 38 rfl law38 Try.underlying38 Try.underlying70 w.heap.size k (mapM (l.take k)) rfl (hs.alloc _) p1 hpb.1 rfl ?_)
        | (at_mapUpdate; refine wpList_put _ rfl _ _ _ 70 38 rfl law38 Try.underlying38 Try.underlying70 w.heap.size k (mapM (l.take k)) rfl (hs.alloc _) (by omega) p1 hpb.1 rfl _ _ rfl HO.out hol ?_; intro w1 hs1 hg1)
        | go_in)
      have hg2 := hnx.grown (((World.grownBy_alloc wr (.cells #[.int .u32 p1, .int .u16 p2] 46) (some w.heap.size))).andThen hg1 (fun j hj => .inr hj)) hz (fun j hj => by cases hj; exact Nat.le_refl _)
      go_roundw
      case rel => exact ⟨k + 1, by omega, by go_num, by rw [HS.out]; exact hs1, hg2⟩
      case measure => simp [intOf]; omega
    · have hkn : k = n := by omega
      have hsM : IsM 38 wr w.heap.size n (mapM l) := by rw [← hkn]; rw [List.take_of_length_le (by omega)] at hs; exact hs
      clear hs hkn hr
      obtain ⟨wo, rfl⟩ : ∃ wo : World, wo = wr := ⟨_, rfl⟩
      have hM := asc_mapM l
      have hMb := bd_mapM hl
      have hMl := length_mapM l
      obtain ⟨M, hMeq⟩ : ∃ M, M = mapM l := ⟨_, rfl⟩
      have HM := Lib.hid (show sortedL l = M.filter (fun p => p.2 != 0) by rw [hMeq]; rfl)
      rw [← hMeq] at hsM hM hMb hMl
      clear hMeq
      have hz := hnx.size
      have e1 : (wo.alloc (.cells #[] 46)).heap.size = wo.heap.size + 1 := by simp
      go_wp2_with (first
        | (at_range; refine wpList_range _ rfl _ 70 38 rfl law38 Try.underlying70 w.heap.size n M rfl (hsM.alloc _) ?_; intro w0 hrg0 hg0 hs0)
        | go_in)
      go_frame
      rw [e1] at hrg0 hs0 ⊢
      go_loopw [6] (fun v wr => ∃ (left : Lit → Bool) (cnt : Nat) (S : PL), IsR 38 wr w.heap.size (wo.heap.size + 1) n M left cnt ∧ OwnP 46 wr w.heap.size v S ∧ v ≠ .slice none 0 0 ∧ Asc S ∧ Seen M S left ∧ Below w.heap.size w wr)
        (fun _ wr => wr.rangeLeft w.heap.size (wo.heap.size + 1))
      case atStart =>
        refine ⟨_, _, [], hrg0, ?_, by simp, asc_nil, Seen.start M, (hnx.alloc hz _).grown hg0 (by simp; omega) (fun j hj => by cases hj)⟩
        have h0 : OwnP 46 (wo.alloc (.cells #[] 46)) w.heap.size (.slice (some ⟨wo.heap.size, 0, none⟩) 0 0) [] := World.ownsRow_lit wo #[] 0 hz (by decide) rfl
        exact h0.kept hg0 (.inr (by simp [Value.ownBlock]))
      case round =>
        obtain ⟨left, cnt, S, hrg, hown, hnn, hS, hseen, hbel⟩ := hrel
        have hSl := Nat.le_trans (hseen.length_le hM hS) hMl
        go_wp2_with (first
          | (at_next; refine wpList_next _ rfl _ rfl 38 law38 Try.underlying38 w.heap.size (wo.heap.size + 1) n M left cnt rfl hrg ?_ ?_)
          | go_in)
        · intro hl0
          go_wp2
          go_ret
          exact ⟨_, rfl, by rw [HM.out, ← hseen.done hM hS hl0]; exact hown, hbel⟩
        · intro i w1 cnt1 hi hi2 hli hrg1 hlt1 hg1 hs1 hen
          clear hs1
          have hbel1 := hbel.grown hg1 hbel.size (fun j hj => by cases hj; omega)
          have hown1 : OwnP 46 w1 w.heap.size u6 S := hown.kept hg1 (.inr fun e => own_ne_iter hown hrg e.symm)
          obtain ⟨x, hx⟩ : ∃ x, getL M i = x := ⟨_, rfl⟩
          have hxb := get_bd hMb i
          rw [hx] at hen hxb ⊢
          by_cases h0 : x = 0
          · subst h0
            go_wp2_with fail
            go_roundw
            case rel => exact ⟨_, cnt1, S, hrg1, hown1, hnn, hS, hseen.skip hM hx, hbel1⟩
            case measure => rw [World.ranges.left_eq hrg1, World.ranges.left_eq hrg]; exact hlt1
          · have hx0 : ((x : Int) == 0) = false := by simp; omega
            obtain ⟨g, cc, hv, hcc, hgb, hglt, ⟨cur, hcur⟩, hcells⟩ := hown1.form' hnn
            subst hv
            have HC := Lib.hid hcells
            clear hcells
            go_wp2_with fail
            go_loop [9] (fun q => ∃ j : Nat, j ≤ S.length ∧ q = .int .i64 j ∧ ∀ p ∈ S.take j, p.1 < i) (fun q => S.length - (intOf q).toNat)
            case atStart => exact ⟨0, Nat.zero_le _, rfl, by simp⟩
            case round =>
              obtain ⟨j, hj, rfl, hlow⟩ := hrel
              have HLow := Lib.hid hlow
              clear hlow
              by_cases hjl : j < S.length
              · obtain ⟨p, hp⟩ : ∃ p, S[j]? = some p := ⟨S[j]'(by omega), List.getElem?_eq_getElem (by omega)⟩
                have hc0 := (HC.out j p hp).1
                have HT := Lib.hid (take_snoc hp)
                have hd : decide ((j : Int) < (S.length : Int)) = true := by simp; omega
                by_cases hlt : p.1 < i
                · have ht : decide ((p.1 : Int) < (i : Int)) = true := by simp; omega
                  clear hp
                  go_wp2_with fail
                  go_round
                  case rel =>
                    refine ⟨j + 1, by omega, by go_num, fun q hq => ?_⟩
                    rw [HT.out] at hq
                    rcases List.mem_append.1 hq with h | h
                    · exact HLow.out q h
                    · simp at h; subst h; exact hlt
                  case measure => simp [intOf]; omega
                · have ht : decide ((p.1 : Int) < (i : Int)) = false := by simp; omega
                  have hhigh : ∀ q ∈ S.drop j, ¬ q.1 < i := drop_high hS hp hlt
                  clear hp
                  go_wp2_with fail
                  have HHigh := Lib.hid hhigh
                  clear hhigh
                  have hcj : ¬ cc = j := by omega
                  have hjc : j ≤ cc := by omega
                  have ho2 := own_one w1 w.heap.size 46 i x hbel1.size
                  have hof := (hown1.front hj).alloc (.cells #[.int .u32 i, .int .u16 x] 46)
                  have hrow : RowP (w1.alloc (.cells #[.int .u32 i, .int .u16 x] 46)) w1.heap.size (some ⟨g, j * 2, none⟩) (S.drop j) := (row_back HC.out hglt j).alloc _ (Nat.le_refl _)
                  have HX := Lib.hid hx
                  have HLen : Hid (S.length < 4294967296) := Lib.hid (by omega)
                  have hz1 := hbel1.size
                  clear hx
                  go_region_law (first | (refine step_appP _ rfl (.tmp 56) (.tmp 59) 31 46 rfl Try.underlying31 info46 w.heap.size (.slice (some ⟨w1.heap.size, 0, none⟩) 1 1) [(i, x)] rfl ho2 w1.heap.size _ (S.drop j) _ _ rfl (by first | (simp; done) | (simp; omega)) hrow (by simp) (by simp) (by have := HLen.out; simp; omega) (by simp; omega) ?_; intro v1 w2 h1 g1 _ nn1; have g1' : (w1.alloc (.cells #[.int .u32 i, .int .u16 x] 46)).grownBy w2 (some w1.heap.size) := ⟨g1.os, g1.tape, g1.output, g1.size, g1.block⟩; have hof2 := hof.kept g1' (.inr (by simp [Value.ownBlock]; omega)); obtain ⟨gg, c2, e2, r2⟩ := h1.row (nn1 (by simp)); have E2 := Lib.hid e2; clear e2; have hz2 := g1'.size) | (refine step_appP _ rfl (.tmp 52) (.tmp 60) 31 46 rfl Try.underlying31 info46 w.heap.size (.slice (some ⟨g, 0, none⟩) j cc) (S.take j) rfl hof2 w2.heap.size (some ⟨gg, 0, none⟩) ([(i, x)] ++ S.drop j) ([(i, x)] ++ S.drop j).length c2 E2.out rfl r2 (by simp) (by have := HLen.out; simp; omega) (by have := HLen.out; simp; omega) (by simp at hz2; omega) ?_; intro v2 w3 h2 g2 _ nn2))
                  have F := Lib.hid (spliced hrg1 hz1 hown1 hM hS hseen hi HX.out h0 hli HLow.out HHigh.out hbel1 g1' h2 rfl g2 hgb)
                  have NN := Lib.hid (nn2 (by simp))
                  clear h1 g1 nn1 g1' hof2 r2 E2 hz2 h2 g2 nn2 ho2 hof hrow
                  go_wp2
                  go_roundw
                  case rel => (repeat apply Exists.intro); exact ⟨⟨_, cnt1, _, F.out.1, F.out.2.1, NN.out, F.out.2.2.1, F.out.2.2.2.1, F.out.2.2.2.2⟩, rfl⟩
                  case measure => rw [World.ranges.left_eq F.out.1, World.ranges.left_eq hrg]; exact hlt1
              · have hd : decide ((j : Int) < (S.length : Int)) = false := by simp; omega
                have HHigh : Hid (∀ q ∈ S.drop j, ¬ q.1 < i) := Lib.hid (by rw [List.drop_eq_nil_of_le (by omega)]; intro q hq; cases hq)
                have hdrop : RowP (w1.alloc (.cells #[.int .u32 i, .int .u16 x] 46)) w1.heap.size (some ⟨g, 0, none⟩) (S.drop j) := by rw [List.drop_eq_nil_of_le (by omega)]; intro h; cases h
                by_cases hcj : cc = j
                · subst hcj
                  go_wp2_with fail
                  have ho2 := own_one w1 w.heap.size 46 i x hbel1.size
                  have hof := (hown1.front hj).alloc (.cells #[.int .u32 i, .int .u16 x] 46)
                  have hrow : RowP (w1.alloc (.cells #[.int .u32 i, .int .u16 x] 46)) w1.heap.size (some ⟨g, 0, none⟩) (S.drop cc) := hdrop
                  have HX := Lib.hid hx
                  have HLen : Hid (S.length < 4294967296) := Lib.hid (by omega)
                  have hz1 := hbel1.size
                  clear hx
                  go_region_law (first | (refine step_appP _ rfl (.tmp 56) (.tmp 59) 31 46 rfl Try.underlying31 info46 w.heap.size (.slice (some ⟨w1.heap.size, 0, none⟩) 1 1) [(i, x)] rfl ho2 w1.heap.size _ (S.drop cc) _ _ rfl (by first | (simp; done) | (simp; omega)) hrow (by simp) (by simp) (by have := HLen.out; simp; omega) (by simp; omega) ?_; intro v1 w2 h1 g1 _ nn1; have g1' : (w1.alloc (.cells #[.int .u32 i, .int .u16 x] 46)).grownBy w2 (some w1.heap.size) := ⟨g1.os, g1.tape, g1.output, g1.size, g1.block⟩; have hof2 := hof.kept g1' (.inr (by simp [Value.ownBlock]; omega)); obtain ⟨gg, c2, e2, r2⟩ := h1.row (nn1 (by simp)); have E2 := Lib.hid e2; clear e2; have hz2 := g1'.size) | (refine step_appP _ rfl (.tmp 52) (.tmp 60) 31 46 rfl Try.underlying31 info46 w.heap.size (.slice (some ⟨g, 0, none⟩) cc cc) (S.take cc) rfl hof2 w2.heap.size (some ⟨gg, 0, none⟩) ([(i, x)] ++ S.drop cc) ([(i, x)] ++ S.drop cc).length c2 E2.out rfl r2 (by simp) (by have := HLen.out; simp; omega) (by have := HLen.out; simp; omega) (by simp at hz2; omega) ?_; intro v2 w3 h2 g2 _ nn2))
                  have F := Lib.hid (spliced hrg1 hz1 hown1 hM hS hseen hi HX.out h0 hli HLow.out HHigh.out hbel1 g1' h2 rfl g2 hgb)
                  have NN := Lib.hid (nn2 (by simp))
                  clear h1 g1 nn1 g1' hof2 r2 E2 hz2 h2 g2 nn2 ho2 hof hrow
                  go_wp2
                  go_roundw
                  case rel => (repeat apply Exists.intro); exact ⟨⟨_, cnt1, _, F.out.1, F.out.2.1, NN.out, F.out.2.2.1, F.out.2.2.2.1, F.out.2.2.2.2⟩, rfl⟩
                  case measure => rw [World.ranges.left_eq F.out.1, World.ranges.left_eq hrg]; exact hlt1
                · have hjc : j ≤ cc := by omega
                  go_wp2_with fail
                  have ho2 := own_one w1 w.heap.size 46 i x hbel1.size
                  have hof := (hown1.front hj).alloc (.cells #[.int .u32 i, .int .u16 x] 46)
                  have hrow : RowP (w1.alloc (.cells #[.int .u32 i, .int .u16 x] 46)) w1.heap.size (some ⟨g, j * 2, none⟩) (S.drop j) := (row_back HC.out hglt j).alloc _ (Nat.le_refl _)
                  have HX := Lib.hid hx
                  have HLen : Hid (S.length < 4294967296) := Lib.hid (by omega)
                  have hz1 := hbel1.size
                  clear hx
                  go_region_law (first | (refine step_appP _ rfl (.tmp 56) (.tmp 59) 31 46 rfl Try.underlying31 info46 w.heap.size (.slice (some ⟨w1.heap.size, 0, none⟩) 1 1) [(i, x)] rfl ho2 w1.heap.size _ (S.drop j) _ _ rfl (by first | (simp; done) | (simp; omega)) hrow (by simp) (by simp) (by have := HLen.out; simp; omega) (by simp; omega) ?_; intro v1 w2 h1 g1 _ nn1; have g1' : (w1.alloc (.cells #[.int .u32 i, .int .u16 x] 46)).grownBy w2 (some w1.heap.size) := ⟨g1.os, g1.tape, g1.output, g1.size, g1.block⟩; have hof2 := hof.kept g1' (.inr (by simp [Value.ownBlock]; omega)); obtain ⟨gg, c2, e2, r2⟩ := h1.row (nn1 (by simp)); have E2 := Lib.hid e2; clear e2; have hz2 := g1'.size) | (refine step_appP _ rfl (.tmp 52) (.tmp 60) 31 46 rfl Try.underlying31 info46 w.heap.size (.slice (some ⟨g, 0, none⟩) j cc) (S.take j) rfl hof2 w2.heap.size (some ⟨gg, 0, none⟩) ([(i, x)] ++ S.drop j) ([(i, x)] ++ S.drop j).length c2 E2.out rfl r2 (by simp) (by have := HLen.out; simp; omega) (by have := HLen.out; simp; omega) (by simp at hz2; omega) ?_; intro v2 w3 h2 g2 _ nn2))
                  have F := Lib.hid (spliced hrg1 hz1 hown1 hM hS hseen hi HX.out h0 hli HLow.out HHigh.out hbel1 g1' h2 rfl g2 hgb)
                  have NN := Lib.hid (nn2 (by simp))
                  clear h1 g1 nn1 g1' hof2 r2 E2 hz2 h2 g2 nn2 ho2 hof hrow
                  go_wp2
                  go_roundw
                  case rel => (repeat apply Exists.intro); exact ⟨⟨_, cnt1, _, F.out.1, F.out.2.1, NN.out, F.out.2.2.1, F.out.2.2.2.1, F.out.2.2.2.2⟩, rfl⟩
                  case measure => rw [World.ranges.left_eq F.out.1, World.ranges.left_eq hrg]; exact hlt1

end Go.Proofs.Ytmonokfibldghaa
