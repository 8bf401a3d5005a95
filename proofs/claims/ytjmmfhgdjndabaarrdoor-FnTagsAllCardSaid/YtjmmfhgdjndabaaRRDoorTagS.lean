/- Walk of a text's parts between commas. Conditions: at most a hundred signs. -/
import Derived.Test.YtjmmfhgdjndabaaRRDoorTagC
import Derived.StillTailTactics
namespace Go.Proofs.YtjmmfhgdjndabaaRRDoor
open Go.RowKit Go.Maps

theorem flat_cellsU (l : List (List UInt8)) : l.flatMap cellsU = l.map fun s => Value.string ⟨s.toArray⟩ := by
  induction l with
  | nil => rfl
  | cons x r ih => rw [List.flatMap_cons, ih]; rfl

theorem OwnR.setLast {w : World} {base g c m : Nat} {ini : List (List UInt8)} {y z : List UInt8} (h : OwnR cellsU 1 9 w base (.slice (some ⟨g, 0, none⟩) (m + 1) c) (ini ++ [y])) (hm : ini.length = m) :
    OwnR cellsU 1 9 (w.setCell ⟨g, m, none⟩ (.string ⟨z.toArray⟩)) base (.slice (some ⟨g, 0, none⟩) (m + 1) c) (ini ++ [z]) := by
  obtain ⟨h1, ⟨h2, _⟩ | ⟨g', cap, cur, h2, hb, hh, hn, hmx, hs, ht⟩⟩ := h
  · cases h2
  · simp only [Value.slice.injEq, Option.some.injEq, Addr.mk.injEq] at h2
    obtain ⟨⟨rfl, -, -⟩, -, rfl⟩ := h2
    have hl : (ini ++ [z]).length = m + 1 := by simp [hm]
    have hl' : (ini ++ [y]).length = m + 1 := by simp [hm]
    rw [hl'] at hn ht
    refine ⟨len_flat len_cellsU _, .inr ⟨g, c, cur.setIfInBounds m (.string ⟨z.toArray⟩), by rw [hl], hb, ?_, by rw [hl]; exact hn, hmx, by simpa using hs, ?_⟩⟩
    · simp [World.setCell, Array.getElem?_modify, hh]
    · rw [hl, Nat.mul_one] at *
      rw [Array.toList_setIfInBounds, List.take_set, ht, flat_cellsU, flat_cellsU, List.map_append, List.map_append]
      rw [List.set_append_right _ _ (by simp [hm])]
      simp [hm]

theorem OwnR.thaw {w : World} {base g c n : Nat} {l : List (List UInt8)} (h : OwnR cellsU 1 9 w base (.slice (some ⟨g, 0, none⟩) n c) l) (off : Nat) : w.frozen? ⟨g, off, none⟩ = false := by
  obtain ⟨h1, ⟨h2, _⟩ | ⟨g', cap, cur, h2, hb, hh, hn, hmx, hs, ht⟩⟩ := h
  · cases h2
  · simp only [Value.slice.injEq, Option.some.injEq, Addr.mk.injEq] at h2
    obtain ⟨⟨rfl, -, -⟩, -, rfl⟩ := h2
    simp [World.frozen?, hh]

theorem drop_snoc {L : List (List UInt8)} (h : L ≠ []) : L = L.dropLast ++ [L.getLastD []] := by
  cases L with
  | nil => exact absurd rfl h
  | cons x r =>
    rw [List.getLastD_cons, ← List.getLast_eq_getLastD]
    exact (List.dropLast_concat_getLast (by simp)).symm

theorem split_le : ∀ (x : List UInt8) (out : List (List UInt8)), (x.foldl splitStep out).length ≤ out.length + x.length + 1
  | [], _ => by simp
  | b :: r, out => by
    rw [List.foldl_cons]
    have h1 := split_le r (splitStep out b)
    have h2 : (splitStep out b).length ≤ out.length + 1 := by unfold splitStep; split <;> simp
    simp
    omega

theorem split_part : ∀ (x : List UInt8) (out : List (List UInt8)) (n : Nat), (∀ z ∈ out, z.length ≤ n) → ∀ z ∈ x.foldl splitStep out, z.length ≤ n + x.length
  | [], _, _, h => by simpa using h
  | b :: r, out, n, h => by
    rw [List.foldl_cons]
    have h2 : ∀ z ∈ splitStep out b, z.length ≤ n + 1 := by
      intro z hz
      unfold splitStep at hz
      split at hz
      · simp at hz
        rcases hz with hz | rfl
        · have := h z hz; omega
        · simp
      · rcases List.mem_append.1 hz with hz | hz
        · have := h z (List.dropLast_subset _ hz); omega
        · simp at hz
          subst hz
          cases out with
          | nil => simp
          | cons p q =>
            have : (p :: q).getLast?.getD [] ∈ p :: q := by
              rw [List.getLast?_eq_some_getLast (by simp)]
              exact List.getLast_mem _
            have := h _ this
            simp at this ⊢
            omega
    intro z hz
    have := split_part r (splitStep out b) (n + 1) h2 z hz
    simp
    omega

set_option maxHeartbeats 1000000 in
set_option maxRecDepth 100000 in
theorem zzSplit_any (s : List UInt8) (hs : s.length ≤ 100) (w : World) :
    Calls Tryd.prog 45 #[.string ⟨s.toArray⟩] w fun e w' => ∃ v, e = .returned v ∧ OwnR cellsU 1 9 w' w.heap.size v (s.foldl splitStep [[]]) ∧ Below w.heap.size w w' := by
  have hsz : (⟨s.toArray⟩ : ByteArray).size = s.length := by simp [ByteArray.size]
  obtain ⟨S, hS⟩ : ∃ S : ByteArray, ⟨s.toArray⟩ = S := ⟨_, rfl⟩
  have HSS := Lib.hid hS
  rw [hS] at hsz ⊢
  have hS100 : S.size ≤ 100 := by omega
  have HSZ := Lib.hid hsz
  clear hS hsz
  have HO0 : Hid (OwnR cellsU 1 9 (w.alloc (.cells #[.string ⟨#[]⟩] 9)) w.heap.size (.slice (some ⟨w.heap.size, 0, none⟩) 1 1) [[]]) := Lib.hid (World.ownsRow_lit w #[.string ⟨#[]⟩] 1 (Nat.le_refl _) (by decide) (by simp))
  go_enter Tryd.func45, Tryd.ntmps45
  go_wp2_with fail
  go_loopw [3, 4] (fun v i wr => ∃ k : Nat, k ≤ S.size ∧ i = .int .i64 k ∧ OwnR cellsU 1 9 wr w.heap.size v ((s.take k).foldl splitStep [[]]) ∧ Below w.heap.size w wr) (fun _ i _ => S.size - (intOf i).toNat)
  case atStart => exact ⟨0, Nat.zero_le _, rfl, HO0.out, (Below.refl _ _).alloc (Nat.le_refl _) _⟩
  case round =>
    obtain ⟨k, hk, rfl, hown, bel⟩ := hrel
    by_cases hlt : k < S.size
    · obtain ⟨b, hb⟩ : ∃ b, s[k]? = some b := ⟨s[k]'(by rw [← HSZ.out]; exact hlt), List.getElem?_eq_getElem _⟩
      obtain ⟨L, hL⟩ : ∃ L, (s.take k).foldl splitStep [[]] = L := ⟨_, rfl⟩
      have hLne : L ≠ [] := by rw [← hL]; exact split_ne _ _ (by simp)
      have hstep : (s.take (k + 1)).foldl splitStep [[]] = splitStep L b := by rw [List.take_add_one, hb, List.foldl_append, hL]; rfl
      have HST := Lib.hid hstep
      rw [hL] at hown
      obtain ⟨ini, y, hiy⟩ : ∃ ini y, L = ini ++ [y] := ⟨_, _, drop_snoc hLne⟩
      subst hiy
      obtain ⟨A, cap, eA, -⟩ := hown.form len_cellsU
      obtain ⟨m, hm⟩ : ∃ m, ini.length = m := ⟨_, rfl⟩
      have hlen : (ini ++ [y]).length = m + 1 := by simp [hm]
      rw [hlen] at eA
      subst eA
      obtain ⟨g, rfl, hg, hc, hx⟩ := rows_textsU hown (by omega)
      have ey := hx m ⟨y.toArray⟩ (by simp [hm])
      rw [Nat.zero_add] at ey
      have hSk : ∀ h : k < S.size, S[k]'h = b := fun h => by
        have h1 := HSS.out
        subst h1
        rw [List.getElem?_eq_some_iff] at hb
        obtain ⟨_, hb⟩ := hb
        rw [← hb]
        rfl
      have hSk2 := hSk hlt
      have HLE : Hid (m ≤ 200) := Lib.hid (by have := split_le (s.take k) [[]]; rw [hL] at this; simp at this; have := HSZ.out; omega)
      have HPL : Hid (∀ z ∈ ini ++ [y], z.length ≤ 0 + (s.take k).length) := Lib.hid (by rw [← hL]; exact split_part (s.take k) [[]] 0 (by simp))
      clear hL hLne hstep hx
      by_cases h44 : b = 44
      · subst h44
        have hq : (((S[k]'hlt).toNat : Int) == 44) = true := by rw [hSk2]; rfl
        have HS2 : Hid (splitStep (ini ++ [y]) 44 = (ini ++ [y]) ++ [[]]) := Lib.hid (by unfold splitStep; rw [if_pos rfl])
        have HB := Lib.hid bel
        have HO := Lib.hid (hown.alloc (.cells #[.string ⟨#[]⟩] 9))
        have HNEW : Hid (∀ j u, (cellsU [])[j]? = some u → (wr.alloc (.cells #[.string ⟨#[]⟩] 9)).cell? ⟨wr.heap.size, j, none⟩ = some u) := Lib.hid (by
          intro j u hu
          match j, hu with
          | 0, hu => simp [cellsU] at hu; subst hu; simp)
        have HL : Hid ((ini ++ [y]).length < 4294967296) := Lib.hid (by have := hlen; have := HLE.out; omega)
        have HZ : Hid (w.heap.size ≤ (wr.alloc (.cells #[.string ⟨#[]⟩] 9)).heap.size) := Lib.hid (by have := bel.size; simp; omega)
        obtain ⟨V, hV⟩ : ∃ V, Value.slice (some ⟨g, 0, none⟩) (m + 1) cap = V := ⟨_, rfl⟩
        rw [hV] at HO ⊢
        clear hown bel hV ey hg hc hlen hSk hSk2 hb
        go_wp2_with ((at_builtin; (refine wpList_app1 _ rfl len_cellsU one_cellsU (by decide) 16 _ rfl (by decide) (.tmp 16) (.tmp 17) 33 9 rfl Tryd.underlying33 infoU9 w.heap.size V (ini ++ [y]) rfl HO.out wr.heap.size 1 [] rfl HNEW.out HL.out HZ.out ?_); intro v2 w2 h2 g2 o2 n2))
        have F := (HB.out.alloc HB.out.size _).grown g2 HZ.out HO.out.le
        have F1 : OwnR cellsU 1 9 w2 w.heap.size v2 ((s.take (k + 1)).foldl splitStep [[]]) := by rw [HST.out, HS2.out]; exact h2
        exact ⟨⟨k + 1, by omega, by go_num, F1, F⟩, by simp [intOf]; omega⟩
      · have hq : (((S[k]'hlt).toNat : Int) == 44) = false := by
          rw [hSk2, beq_eq_false_iff_ne]
          intro e
          exact h44 (UInt8.toNat_inj.1 (by have : (b.toNat : Int) = 44 := e; exact_mod_cast this))
        have HS2 : Hid (splitStep (ini ++ [y]) b = ini ++ [y ++ [b]]) := Lib.hid (by unfold splitStep; rw [if_neg h44]; simp)
        have hfz : wr.frozen? ⟨g, m, none⟩ = false := hown.thaw _
        have HSET : Hid (∀ W z, Below w.heap.size w W → OwnR cellsU 1 9 W w.heap.size (.slice (some ⟨g, 0, none⟩) (m + 1) cap) (ini ++ [y]) → OwnR cellsU 1 9 (W.setCell ⟨g, m, none⟩ (.string ⟨z.toArray⟩)) w.heap.size (.slice (some ⟨g, 0, none⟩) (m + 1) cap) (ini ++ [z]) ∧ Below w.heap.size w (W.setCell ⟨g, m, none⟩ (.string ⟨z.toArray⟩))) := Lib.hid (fun W z hW hO => ⟨hO.setLast hm, hW.setCell (by
          exact hO.le g rfl) _⟩)
        have HO := Lib.hid hown
        have HB := Lib.hid bel
        obtain ⟨Y, hY⟩ : ∃ Y : ByteArray, ⟨y.toArray⟩ = Y := ⟨_, rfl⟩
        have HYY := Lib.hid hY
        rw [hY] at ey
        have hw1 : IntKind.i64.wrap (m : Int) = m := IntWalk.i64_in _ (by have := HLE.out; omega)
        have hw2 : IntKind.i64.wrap ((m : Int) + 1 - 1) = m := by rw [Int.add_sub_cancel]; exact hw1
        have hw3 : IntKind.i64.wrap ((k : Int) + 1) = (k : Int) + 1 := IntWalk.i64_in _ (by omega)
        have hw4 : (m : Int) < (m : Int) + 1 := by omega
        have hw5 : (k : Int) + 1 ≤ (S.size : Int) := by omega
        obtain ⟨X, hX⟩ : ∃ X : ByteArray, S.extract k (k + 1) = X := ⟨_, rfl⟩
        have hsl : ∀ W, (Instr.slice 9 (.string S) (some (.int .i64 (k : Int))) (some (.int .i64 ((k : Int) + 1))) none).run Tryd.prog W = .ok (.string X) W := fun W => by
          rw [← hX]
          exact run_slice_string W 9 S .i64 .i64 (k : Int) ((k : Int) + 1) Tryd.underlying9 (by omega) (by omega) hw5
        have HYX : Hid (Y ++ X = ⟨(y ++ [b]).toArray⟩) := Lib.hid (by
          rw [← hY, ← hX]
          apply ByteArray.ext
          have h1 := HSS.out
          subst h1
          apply Array.ext'
          have e1 : ((⟨s.toArray⟩ : ByteArray).extract k (k + 1)).data.toList = (s.drop k).take 1 := by simp [List.extract_eq_take_drop]
          have e2 : (s.drop k).take 1 = [b] := by
            rw [List.getElem?_eq_some_iff] at hb
            obtain ⟨hb1, hb2⟩ := hb
            rw [List.drop_eq_getElem_cons hb1, hb2]
            rfl
          simp [e1, e2])
        have hYs : Y.size ≤ 200 := by rw [← hY]; have := HPL.out y (by simp); have := HSZ.out; have := List.length_take_le k s; have := List.length_take_le' k s; simp [ByteArray.size]; omega
        have hXs : X.size ≤ 200 := by rw [← hX]; simp [ByteArray.size_extract]; omega
        obtain ⟨Z, hZ⟩ : ∃ Z : ByteArray, Y ++ X = Z := ⟨_, rfl⟩
        have hadd : ∀ W, (Op.stringOp .add Y X).run Tryd.prog W = .ok (.string Z) W := fun W => by
          rw [← hZ]
          exact run_string_add_sum W Y X (by omega)
        rw [hZ] at HYX
        clear hYs hXs hZ
        clear hown bel hb hY hlen hSk hSk2 hX
        go_wp2_with fail
        all_goals go_still_tail 13, (by kernel_rfl)
        change wpList _ _ _ _ _ wr.drew
        have ey2 : wr.drew.cell? ⟨g, m, none⟩ = some (.string Y) := ey
        have hfz2 : wr.drew.frozen? ⟨g, m, none⟩ = false := hfz
        have HO2 : Hid (OwnR cellsU 1 9 wr.drew w.heap.size (.slice (some ⟨g, 0, none⟩) (m + 1) cap) (ini ++ [y])) := Lib.hid HO.out
        have HB2 : Hid (Below w.heap.size w wr.drew) := Lib.hid HB.out.drew
        have hg2 : g < wr.drew.heap.size := hg
        generalize wr.drew = W at ey2 hfz2 HO2 HB2 hg2 ⊢
        clear HO HB ey hfz hg
        go_wp2_with fail
        have hF := HSET.out W (y ++ [b]) HB2.out HO2.out
        rw [← HYX.out] at hF
        refine ⟨⟨k + 1, by omega, by go_num, ?_, hF.2⟩, by simp [intOf]; omega⟩
        rw [HST.out, HS2.out]
        exact hF.1
    · obtain rfl : k = S.size := by omega
      have F2 := Lib.hid bel
      have F1 := Lib.hid hown
      clear hown bel
      go_wp2
      go_ret
      refine ⟨_, rfl, ?_, F2.out⟩
      have := F1.out
      rw [List.take_of_length_le (by rw [HSZ.out]; exact Nat.le_refl _)] at this
      exact this

end Go.Proofs.YtjmmfhgdjndabaaRRDoor
