/- Walk of the program's TagsAll. Conditions: the library's table lies as it is laid; at most four constraints. -/
import Derived.Test.YtjmmfhgdjndabaaRRDoorTagJ
import Derived.Deep.RegionHeld3
namespace Go.Proofs.YtjmmfhgdjndabaaRRDoor
open Go.RowKit Go.Maps

theorem infoU48 : (Tryd.prog.info? 48).map (fun i => (i.zero, i.size, i.bytes)) = some (some (.slice none 0 0), 1, 24) := by kernel_rfl

set_option maxHeartbeats 1000000 in
set_option maxRecDepth 100000 in
theorem tagsAll_any (A : Option Addr) (cS n : Nat) (cs : List (List (List Tm))) (ho : OkS cs) (hn : cs.length = n) (A2 : Option Addr) (cT q tags : Nat) (ht : tags < 256) (w : World) (hT : TabP w) (hr1 : RowR cellsU 1 w A (cs.map ct)) (hr2 : RowR cellsU 1 w A2 (TG tags 6)) (hq : (TG tags 6).length = q) :
    Calls Tryd.prog 14 #[.slice A n cS, .slice A2 q cT] w fun e w' => e = .returned (.tuple #[.string ⟨(goS cs).toArray⟩, .bool (cs.all (cv tags)), .bool true]) ∧ Below w.heap.size w w' := by
  have hn4 : n ≤ 4 := by have := ho.1; omega
  have HN := Lib.hid hn
  have HO := Lib.hid ho
  have HT := Lib.hid hT
  have HR2 := Lib.hid hr2
  have HQ := Lib.hid hq
  clear hn ho hT hr2 hq
  go_enter Tryd.func14, Tryd.ntmps14
  go_wp2_with fail
  go_loopw [7, 14] (fun v i wr => ∃ (k : Nat) (L : List (Option Addr × Nat × Nat)), k ≤ n ∧ i = .int .i64 k ∧ L.length = k ∧ OwnR cellsV 1 48 wr w.heap.size v L ∧ PartsC wr w.heap.size cs L ∧ Below w.heap.size w wr) (fun _ i _ => n - (intOf i).toNat)
  case atStart => exact ⟨0, [], Nat.zero_le _, rfl, rfl, OwnR.nil _ _ _ _ _, (fun j x hx => by simp at hx), Below.refl _ _⟩
  case round =>
    obtain ⟨k, L, hk, rfl, hL, hown, hparts, bel⟩ := hrel
    by_cases hlt : k < n
    · obtain ⟨c, ho⟩ : ∃ c, cs[k]? = some c := ⟨cs[k]'(by have := HN.out; omega), List.getElem?_eq_getElem _⟩
      obtain ⟨g, rfl, hg, hc⟩ := hr1.textAt (by have := HN.out; simp; omega)
      have e0 := (bel.cell (p := ⟨g, k, none⟩) hg).trans (hc k (ct c) (by simp [ho]))
      have hok := HO.out.2 c (List.mem_of_getElem? ho)
      have HP := Lib.hid (parseConstraintO_any c hok.1 wr (HT.out.below bel))
      obtain ⟨N, hN⟩ : ∃ N : ByteArray, ⟨(ct c).toArray⟩ = N := ⟨_, rfl⟩
      rw [hN] at e0 HP
      have HOWN := Lib.hid hown
      have HPA := Lib.hid hparts
      have HB := Lib.hid bel
      have HLK := Lib.hid hL
      have HCC := Lib.hid ho
      clear hc hok hN bel hown hparts ho hL
      go_wp2_with fail
      refine HP.out.mono ?_
      rintro e w2 ⟨A3, c3, rfl, hcon2, bel2⟩
      have HOWN2 := Lib.hid ((HOWN.out.below bel2).alloc (.cells #[.slice A3 c.length c3] 48))
      have HPA2 := Lib.hid (((HPA.out.below bel2).snoc (x := (A3, c.length, c3)) (by rw [HLK.out]; exact HCC.out) rfl (hcon2.mono HB.out.size)).below ((Below.refl _ w2).alloc (Nat.le_refl _) (.cells #[.slice A3 c.length c3] 48)))
      have HB2 := Lib.hid ((HB.out.trans (bel2.mono HB.out.size)).alloc (Nat.le_trans HB.out.size bel2.size) (.cells #[.slice A3 c.length c3] 48))
      have HZ : Hid (w.heap.size ≤ (w2.alloc (.cells #[.slice A3 c.length c3] 48)).heap.size) := Lib.hid HB2.out.size
      obtain ⟨m, hm⟩ : ∃ m, c.length = m := ⟨_, rfl⟩
      rw [hm] at HOWN2 HPA2 HB2 HZ ⊢
      have HNEW : Hid (∀ j u, (cellsV (A3, m, c3))[j]? = some u → (w2.alloc (.cells #[.slice A3 m c3] 48)).cell? ⟨w2.heap.size, j, none⟩ = some u) := Lib.hid (by
        intro j u hu
        match j, hu with
        | 0, hu => simp [cellsV] at hu; subst hu; simp)
      have HL : Hid (L.length < 4294967296) := Lib.hid (by have := HLK.out; omega)
      clear hcon2 bel2 HOWN HPA HB HP
      go_wp2_with ((at_builtin; (refine wpList_app1 _ rfl len_cellsV one_cellsV (by decide) 24 _ rfl (by decide) (.tmp 25) (.tmp 27) 58 48 rfl Tryd.underlying58 infoU48 w.heap.size u7 L rfl HOWN2.out w2.heap.size 1 (A3, m, c3) rfl HNEW.out HL.out HZ.out ?_); intro v3 w3 h3 g3 o3 n3))
      have F := HB2.out.grown g3 HZ.out HOWN2.out.le
      have F3 := HPA2.out.grown g3 HOWN2.out
      exact ⟨⟨k + 1, L ++ [(A3, m, c3)], by omega, by go_num, by simp [HLK.out], h3, F3, F⟩, by simp [intOf]; omega⟩
    · obtain rfl : k = n := by omega
      obtain ⟨A3, c3, e3, -⟩ := hown.form len_cellsV
      rw [hL] at e3
      subst e3
      have F := Lib.hid bel
      have hcons := hparts.cons (by rw [hL, HN.out]) hown
      have H25 := Lib.hid (consGo_any A3 c3 k cs wr.drew (hcons.below ((Below.refl _ wr).drew)) HN.out HO.out)
      have H24 : Hid (∀ W, Below wr.heap.size wr W → Calls Tryd.prog 24 #[.slice A2 q cT] W fun e w' => ∃ b, e = .returned (.map (some b)) ∧ IsTags w' b tags ∧ Below W.heap.size W w') := Lib.hid (fun W hW =>
        (setTags_any A2 cT q (TG tags 6) W (HR2.out.below (F.out.trans (hW.mono F.out.size))) HQ.out (by have := TG_len tags 6; have := HQ.out; omega) (fun x hx => by
          obtain ⟨i, -, rfl⟩ := List.mem_map.1 hx
          have := tg_len i
          omega)).mono fun e w' ⟨b, h1, h2, h3⟩ => ⟨b, h1, ⟨_, h2⟩, h3⟩)
      have H26 : Hid (∀ W b, Below wr.heap.size wr W → IsTags W b tags → Calls Tryd.prog 26 #[.slice A3 k c3, .map (some b)] W fun e w' => e = .returned (.bool (cs.all (cv tags))) ∧ Below W.heap.size W w') := Lib.hid (fun W b hW hM =>
        consEval_any A3 c3 k cs b tags ht W (hcons.below hW) HN.out HO.out (HT.out.below (F.out.trans (hW.mono F.out.size))) hM)
      have H27 : Hid (∀ W, Below wr.heap.size wr W → Calls Tryd.prog 27 #[.slice A3 k c3] W fun e w' => e = .returned .nilIface ∧ Below W.heap.size W w') := Lib.hid (fun W hW =>
        consValidate_any A3 c3 k cs W (hcons.below hW) HN.out HO.out (HT.out.below (F.out.trans (hW.mono F.out.size))))
      obtain ⟨G, hG⟩ : ∃ G : ByteArray, ⟨(goS cs).toArray⟩ = G := ⟨_, rfl⟩
      obtain ⟨V, hV⟩ : ∃ V, cs.all (cv tags) = V := ⟨_, rfl⟩
      rw [hG] at H25
      rw [hV] at H26
      have HGG := Lib.hid hG
      have HVV := Lib.hid hV
      clear hown bel hparts hL hcons hG hV hr1
      go_wp2_with fail
      go_region_held3 (fun _ => True)
        (go_keep)
        ((first
          | (go_at_call 25; refine H25.out.mono ?_; rintro e w1 ⟨rfl, hb1⟩; have f1 : Below wr.heap.size wr w1 := ⟨hb1.os, hb1.tape, hb1.output, hb1.size, hb1.block⟩)
          | (go_at_call 24; refine (H24.out w1 f1).mono ?_; rintro e w2 ⟨b, rfl, hmap, hb2⟩; have f2 := f1.trans (hb2.mono f1.size))
          | (go_at_call 26; refine (H26.out w2 b f2 hmap).mono ?_; rintro e w3 ⟨rfl, hb3⟩; have f3 := f2.trans (hb3.mono f2.size))
          | (go_at_call 27; refine (H27.out w3 f3).mono ?_; rintro e w4 ⟨rfl, hb4⟩; have f4 := f3.trans (hb4.mono f3.size))))
      all_goals go_wp2
      all_goals go_ret3
      all_goals exact ⟨by rw [HGG.out, HVV.out]; rfl, F.out.trans (f4.mono F.out.size)⟩

end Go.Proofs.YtjmmfhgdjndabaaRRDoor
