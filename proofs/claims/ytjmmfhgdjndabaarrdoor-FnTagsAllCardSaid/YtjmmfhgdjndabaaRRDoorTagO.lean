/- Walk of an option's reading. Conditions: the library's table lies as it is laid; at most three terms. -/
import Derived.Test.YtjmmfhgdjndabaaRRDoorTagS
namespace Go.Proofs.YtjmmfhgdjndabaaRRDoor
open Go.RowKit Go.Maps

theorem infoU79 : (Tryd.prog.info? 79).map (fun i => (i.zero, i.size, i.bytes)) = some (some (.string ⟨#[]⟩), 1, 16) := by kernel_rfl
theorem own79_empty (w : World) (base : Nat) (hb : base ≤ w.heap.size) : OwnR cellsU 1 79 (w.alloc (.cells #[] 79)) base (.slice (some ⟨w.heap.size, 0, none⟩) 0 0) [] := World.ownsRow_lit w #[] 0 hb (by decide) (by simp)
theorem OwnR.mono {α : Type} {f : α → List Value} {s : Nat} {e : TypeId} {w : World} {base base' : Nat} {v : Value} {l : List α} (h : OwnR f s e w base v l) (hb : base' ≤ base) : OwnR f s e w base' v l := by
  obtain ⟨h1, h2 | ⟨g, cap, cur, h2, h3, h4⟩⟩ := h
  · exact ⟨h1, .inl h2⟩
  · exact ⟨h1, .inr ⟨g, cap, cur, h2, Nat.le_trans hb h3, h4⟩⟩

set_option maxHeartbeats 1000000 in
set_option maxRecDepth 100000 in
theorem parseOption_any (o : List Tm) (h0 : o ≠ []) (ho : OkO o) (w : World) (hT : TabP w) :
    Calls Tryd.prog 33 #[.string ⟨(ot o).toArray⟩] w fun e w' => ∃ A c, e = .returned (.tuple #[.slice A o.length c, .nilIface]) ∧ OwnR cellsU 1 79 w' w.heap.size (.slice A o.length c) (o.map tt) ∧ Below w.heap.size w w' := by
  have HS := Lib.hid (zzSplit_any (ot o) (by have := ot_len ho.1; omega))
  have HE := Lib.hid (split_ot h0)
  have HO := Lib.hid ho
  have HT := Lib.hid hT
  obtain ⟨n, hn⟩ : ∃ n, o.length = n := ⟨_, rfl⟩
  have HN := Lib.hid hn
  have hn3 : n ≤ 3 := by have := ho.1; omega
  have hn0 : 0 < n := by rw [← hn]; exact List.length_pos_iff.2 h0
  obtain ⟨N, hN⟩ : ∃ N : ByteArray, ⟨(ot o).toArray⟩ = N := ⟨_, rfl⟩
  rw [hN] at HS ⊢
  rw [hn]
  have H79 := Lib.hid (own79_empty w w.heap.size (Nat.le_refl _))
  clear ho hT hn hN h0
  go_enter Tryd.func33, Tryd.ntmps33
  go_wp2_with fail
  refine (HS.out _).mono ?_
  rintro e w1 ⟨v1, rfl, hown1, bel1⟩
  rw [HE.out] at hown1
  have HB1 := Lib.hid (((Below.refl w.heap.size w).alloc (Nat.le_refl _) (.cells #[] 79)).trans (bel1.mono (by simp)))
  have HV1 := Lib.hid (H79.out.below bel1)
  have HR1 := Lib.hid (hown1.mono (base' := w.heap.size) (by simp))
  obtain ⟨A, c, e1, -⟩ := hown1.form len_cellsU
  have hl : (o.map tt).length = n := by simp [HN.out]
  rw [hl] at e1
  subst e1
  obtain ⟨g, rfl, -⟩ := rows_textsU hown1 (by omega)
  clear hown1 bel1 H79 hl
  go_wp2_with fail
  go_loopw [4, 11] (fun v i wr => ∃ k : Nat, k ≤ n ∧ i = .int .i64 k ∧ OwnR cellsU 1 79 wr w.heap.size v ((o.take k).map tt) ∧ OwnR cellsU 1 9 wr w.heap.size (.slice (some ⟨g, 0, none⟩) n c) (o.map tt) ∧ Below w.heap.size w wr) (fun _ i _ => n - (intOf i).toNat)
  case atStart => exact ⟨0, Nat.zero_le _, rfl, HV1.out, HR1.out, HB1.out⟩
  case round =>
    obtain ⟨k, hk, rfl, hown, hrow, bel⟩ := hrel
    by_cases hlt : k < n
    · obtain ⟨t, ht⟩ : ∃ t, o[k]? = some t := ⟨o[k]'(by have := HN.out; omega), List.getElem?_eq_getElem _⟩
      obtain ⟨g', e', hg, -, hc⟩ := rows_textsU hrow (by have := HN.out; simp; omega)
      simp only [Option.some.injEq, Addr.mk.injEq] at e'
      obtain ⟨rfl, -, -⟩ := e'
      have e0 := hc k ⟨(tt t).toArray⟩ (by simp [ht])
      rw [Nat.zero_add] at e0
      have HB := Lib.hid bel
      have HTK : Hid (o.take (k + 1) = o.take k ++ [t]) := Lib.hid (by rw [List.take_add_one, ht]; rfl)
      obtain ⟨N, hN⟩ : ∃ N : ByteArray, ⟨(tt t).toArray⟩ = N := ⟨_, rfl⟩
      have HNN := Lib.hid hN
      rw [hN] at e0
      have HW := Lib.hid (hown.alloc (.cells #[.string N] 79))
      have HRW := Lib.hid (hrow.alloc (.cells #[.string N] 79))
      have HNEW : Hid (∀ j u, (cellsU (tt t))[j]? = some u → (wr.alloc (.cells #[.string N] 79)).cell? ⟨wr.heap.size, j, none⟩ = some u) := Lib.hid (by
        intro j u hu
        match j, hu with
        | 0, hu => simp [cellsU] at hu; subst hu; simp [HNN.out])
      have HL : Hid (((o.take k).map tt).length < 4294967296) := Lib.hid (by have := HN.out; simp; omega)
      have HZ : Hid (w.heap.size ≤ (wr.alloc (.cells #[.string N] 79)).heap.size) := Lib.hid (by have := bel.size; simp; omega)
      clear hc ht hN bel hown hrow HB1 HV1 HR1
      go_wp2_with ((at_builtin; (refine wpList_app1 _ rfl len_cellsU one_cellsU (by decide) 16 _ rfl (by decide) (.tmp 15) (.tmp 17) 65 79 rfl Tryd.underlying65 infoU79 w.heap.size u4 ((o.take k).map tt) rfl HW.out wr.heap.size 1 (tt t) rfl HNEW.out HL.out HZ.out ?_); intro v2 w2 h2 g2 o2 n2))
      have F := (HB.out.alloc HB.out.size _).grown g2 HZ.out HW.out.le
      have F1 : OwnR cellsU 1 79 w2 w.heap.size v2 ((o.take (k + 1)).map tt) := by rw [HTK.out, List.map_append]; exact h2
      have F2 := HRW.out.kept g2 (own_apart HRW.out HW.out (by decide))
      exact ⟨⟨k + 1, by omega, by go_num, F1, F2, F⟩, by simp [intOf]; omega⟩
    · obtain rfl : k = n := by omega
      rw [List.take_of_length_le (by rw [HN.out]; exact Nat.le_refl _)] at hown
      obtain ⟨A2, c2, e2, hrow2⟩ := hown.form len_cellsU
      have hlen : (o.map tt).length = k := by simp [HN.out]
      rw [hlen] at e2
      subst e2
      have HV := Lib.hid (optValidate_any A2 c2 k o wr hrow2 HN.out HO.out (HT.out.below bel))
      have F := Lib.hid bel
      have FR := Lib.hid hown
      clear hown bel hlen hrow hrow2
      go_wp2_with fail
      refine HV.out.mono ?_
      rintro e w2 ⟨rfl, hb2⟩
      have F2 := Lib.hid (F.out.trans (hb2.mono F.out.size))
      have F3 := Lib.hid (FR.out.below hb2)
      clear hb2
      go_wp2
      go_ret2
      exact ⟨A2, c2, rfl, F3.out, F2.out⟩

end Go.Proofs.YtjmmfhgdjndabaaRRDoor
