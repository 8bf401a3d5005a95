/- Walks of what terms, options and constraints tell of tags, of their being right, and of their texts. Conditions: the library's table lies as it is laid; lengths as stated. -/
import Derived.Test.YtjmmfhgdjndabaaRRDoorTagM
import Derived.Test.YtjmmfhgdjndabaaRRDoorShA
import Derived.Deep.RegionHeld3
namespace Go.Proofs.YtjmmfhgdjndabaaRRDoor
open Go.RowKit Go.Maps
open Go.WideMaps (keyOf_string_mk)

theorem RowR.below {α : Type} {f : α → List Value} {s : Nat} {w w' : World} {A : Option Addr} {l : List α} (h : RowR f s w A l) (hb : Below w.heap.size w w') : RowR f s w' A l := fun h0 => by
  obtain ⟨g, e, hg, hc⟩ := h h0
  exact ⟨g, e, Nat.lt_of_lt_of_le hg hb.size, fun k x hx j u hu => (hb.cell (p := ⟨g, k * s + j, none⟩) hg).trans (hc k x hx j u hu)⟩
theorem RowR.textAt {w : World} {A : Option Addr} {l : List (List UInt8)} (h : RowR cellsU 1 w A l) (h0 : 0 < l.length) : ∃ g, A = some ⟨g, 0, none⟩ ∧ g < w.heap.size ∧ ∀ k x, l[k]? = some x → w.cell? ⟨g, k, none⟩ = some (.string ⟨x.toArray⟩) := by
  obtain ⟨g, e, hg, hc⟩ := h h0
  refine ⟨g, e, hg, fun k x hx => ?_⟩
  have := hc k x hx 0 _ rfl
  rw [Nat.mul_one, Nat.add_zero] at this
  exact this

set_option maxRecDepth 100000 in
theorem setTags_any (A : Option Addr) (c n : Nat) (l : List (List UInt8)) (w : World) (hr : RowR cellsU 1 w A l) (hn : l.length = n) (hl : n ≤ 6) (hs : ∀ x ∈ l, x.length ≤ 100) :
    Calls Tryd.prog 24 #[.slice A n c] w fun e w' => ∃ b, e = .returned (.map (some b)) ∧ w'.ownsMap (H := Unit) Tryd.prog 9 (plainElem Tryd.prog 4) b n (DT l) ∧ Below w.heap.size w w' := by
  have hmm := @run_makeMap Tryd.prog
  have HS := Lib.hid hs
  have HN := Lib.hid hn
  clear hs hn
  go_enter Tryd.func24, Tryd.ntmps24
  go_wp2_with fail
  go_loopw [9] (fun i wr => ∃ k : Nat, k ≤ n ∧ i = .int .i64 k ∧ wr.ownsMap (H := Unit) Tryd.prog 9 (plainElem Tryd.prog 4) w.heap.size k (DT (l.take k)) ∧ Below w.heap.size w wr) (fun i _ => n - (intOf i).toNat)
  case atStart => exact ⟨0, Nat.zero_le _, rfl, World.ownsMap_made _ _ _ _, (Below.refl _ _).alloc (Nat.le_refl _) _⟩
  case round =>
    obtain ⟨k, hk, rfl, hown, bel⟩ := hrel
    by_cases hlt : k < n
    · obtain ⟨x, hx⟩ : ∃ x, l[k]? = some x := ⟨l[k]'(by have := HN.out; omega), List.getElem?_eq_getElem _⟩
      obtain ⟨g, rfl, hg, hc⟩ := hr.textAt (by have := HN.out; omega)
      have e0 := (bel.cell (p := ⟨g, k, none⟩) hg).trans (hc k x hx)
      have hxl := HS.out x (List.mem_of_getElem? hx)
      obtain ⟨w2, hrun, o2, g2⟩ := hown.update (t := 55) (e := 4) law9 Tryd.underlying55 (by unfold maxLen; omega) (key := .string ⟨x.toArray⟩) (val := .bool true) (kl := .string x) (d := .lit (.bool true)) (ps := []) (keyOf_string_mk Tryd.underlying9 (by unfold maxLen; simp [ByteArray.size]; omega)) (plainElem_bool Tryd.underlying4 true)
      have F1 : Hid (w2.ownsMap (H := Unit) Tryd.prog 9 (plainElem Tryd.prog 4) w.heap.size (k + 1) (DT (l.take (k + 1)))) := Lib.hid (by
        rw [List.take_add_one, hx]
        show w2.ownsMap _ _ _ _ _ (DT (l.take k ++ [x]))
        rw [DT_snoc]
        exact o2)
      have F2 := Lib.hid (bel.grown g2 bel.size (fun j hj => by cases hj; exact Nat.le_refl _))
      obtain ⟨N, hN⟩ : ∃ N : ByteArray, ⟨x.toArray⟩ = N := ⟨_, rfl⟩
      rw [hN] at e0 hrun
      clear hc hx hxl o2 g2 hown bel hN
      go_wp2_with fail
      go_roundw
      case rel => exact ⟨k + 1, by omega, by go_num, F1.out, F2.out⟩
      case measure => simp [intOf]; omega
    · obtain rfl : k = n := by omega
      have F1 := Lib.hid hown
      have F2 := Lib.hid bel
      clear hown bel
      go_wp2
      go_ret
      refine ⟨_, rfl, ?_, F2.out⟩
      have := F1.out
      rw [List.take_of_length_le (by rw [HN.out]; exact Nat.le_refl _)] at this
      exact this

set_option maxRecDepth 100000 in
/-- A look into the set of tags. -/
theorem lookB_any {w : World} {b n : Nat} {D : DataW Unit} (h : w.ownsMap (H := Unit) Tryd.prog 9 (plainElem Tryd.prog 4) b n D) (s : List UInt8) (hs : s.length ≤ 100) (B : Bool) (hB : D.atKey (.string s) (.lit (.bool false)) = .lit (.bool B)) :
    (Instr.lookup 55 (.map (some b)) (.string ⟨s.toArray⟩) false).run Tryd.prog w = .ok (.bool B) w := by
  obtain ⟨v, ps, hrun, hv⟩ := h.lookup law9 Tryd.underlying55 (zero4 w) (plainElem_bool Tryd.underlying4 false) (keyOf_string_mk Tryd.underlying9 (s := ⟨s.toArray⟩) (by unfold maxLen; simp [ByteArray.size]; omega))
  have hB' : D.atKey (.string (⟨s.toArray⟩ : ByteArray).data.toList) (.lit (.bool false)) = .lit (.bool B) := hB
  rw [hB'] at hv
  have e : v = .bool B := by
    unfold plainElem at hv
    rw [Tryd.underlying4] at hv
    split at hv
    · simp only [Option.some.injEq, Prod.mk.injEq, DataW.lit.injEq, Lit.bool.injEq] at hv
      rw [hv.1]
    · split at hv <;> cases hv
    · split at hv <;> cases hv
    · cases hv
  rw [← e]
  exact hrun

/-- The set of tags of a number's bits lies at a block. -/
def IsTags (w : World) (b tags : Nat) : Prop := ∃ n, w.ownsMap (H := Unit) Tryd.prog 9 (plainElem Tryd.prog 4) b n (DT (TG tags 6))
theorem IsTags.below {w w' : World} {b tags : Nat} (h : IsTags w b tags) (hb : Below w.heap.size w w') : IsTags w' b tags := by
  obtain ⟨n, h⟩ := h
  exact ⟨n, World.ownsMap.kept h (row := none) ⟨hb.os, hb.tape, hb.output, hb.size, fun i hi _ => hb.block i hi⟩ (by simp)⟩
theorem IsTags.look {w : World} {b tags x : Nat} (h : IsTags w b tags) (ht : tags < 256) (hx : x < 6) : (Instr.lookup 55 (.map (some b)) (.string ⟨(tg x).toArray⟩) false).run Tryd.prog w = .ok (.bool (decide (tags / 2 ^ x % 2 = 1))) w := by
  obtain ⟨n, h⟩ := h
  exact lookB_any h (tg x) (by have := tg_len x; omega) _ (dt_at ht hx)

theorem evalT_any (t : Tm) (hx : t.2 < 6) (b tags : Nat) (ht : tags < 256) (w : World) (hT : TabP w) (hM : IsTags w b tags) :
    Calls Tryd.prog 48 #[.string ⟨(tt t).toArray⟩, .map (some b)] w fun e w' => e = .returned (.bool (tv tags t)) ∧ Below w.heap.size w w' := by
  have HV := Lib.hid (validate_any t hx w.drew hT)
  have HN := Lib.hid (fun W => name_any t hx W)
  have HG := Lib.hid (fun W => neg_any t hx W)
  have HL : Hid (∀ W, Below w.heap.size w W → (Instr.lookup 55 (.map (some b)) (.string ⟨(tg t.2).toArray⟩) false).run Tryd.prog W = .ok (.bool (decide (tags / 2 ^ t.2 % 2 = 1))) W) := Lib.hid (fun W hW => (hM.below hW).look ht hx)
  obtain ⟨S, hS⟩ : ∃ S : ByteArray, ⟨(tt t).toArray⟩ = S := ⟨_, rfl⟩
  obtain ⟨N, hN⟩ : ∃ N : ByteArray, ⟨(tg t.2).toArray⟩ = N := ⟨_, rfl⟩
  obtain ⟨B, hB⟩ : ∃ B : Bool, decide (tags / 2 ^ t.2 % 2 = 1) = B := ⟨_, rfl⟩
  obtain ⟨G, hG⟩ : ∃ G : Bool, t.1 = G := ⟨_, rfl⟩
  have HR : Hid ((B == !G) = tv tags t) := Lib.hid (by unfold tv; rw [hB, hG]; cases B <;> cases G <;> rfl)
  rw [hS] at HV HN HG ⊢
  rw [hN] at HN HL
  rw [hB] at HL
  rw [hG] at HG
  clear hT hM hS hN hB hG
  go_enter Tryd.func48, Tryd.ntmps48
  go_wp2_with fail
  go_region_held3 (fun _ => True)
    (go_keep)
    ((first
      | (go_at_call 46; refine HV.out.mono ?_; rintro e w1 ⟨rfl, hb1⟩; have hlk := HL.out w1 ⟨hb1.os, hb1.tape, hb1.output, hb1.size, hb1.block⟩)
      | (go_at_call 56; refine (HN.out _).mono ?_; rintro e w2 ⟨rfl, rfl⟩)
      | (go_at_call 59; refine (HG.out _).mono ?_; rintro e w2 ⟨rfl, rfl⟩)))
  all_goals go_wp2
  all_goals go_ret
  all_goals (
    refine ⟨?_, ⟨hb1.os, hb1.tape, hb1.output, hb1.size, hb1.block⟩⟩
    rw [← HR.out]
    rfl)

/-- Terms of the six tags. -/
def OkO (o : List Tm) : Prop := o.length ≤ 3 ∧ ∀ t ∈ o, t.2 < 6

set_option maxRecDepth 100000 in
theorem optValidate_any (A : Option Addr) (c n : Nat) (o : List Tm) (w : World) (hr : RowR cellsU 1 w A (o.map tt)) (hn : o.length = n) (ho : OkO o) (hT : TabP w) :
    Calls Tryd.prog 34 #[.slice A n c] w fun e w' => e = .returned .nilIface ∧ Below w.heap.size w w' := by
  have hn3 : n ≤ 3 := by have := ho.1; omega
  have HN := Lib.hid hn
  have HO := Lib.hid ho
  have HT := Lib.hid hT
  clear hn ho hT
  go_enter Tryd.func34, Tryd.ntmps34
  go_wp2_with fail
  go_loopw [8] (fun i wr => ∃ k : Nat, k ≤ n ∧ i = .int .i64 k ∧ Below w.heap.size w wr) (fun i _ => n - (intOf i).toNat)
  case atStart => exact ⟨0, Nat.zero_le _, rfl, Below.refl _ _⟩
  case round =>
    obtain ⟨k, hk, rfl, bel⟩ := hrel
    by_cases hlt : k < n
    · obtain ⟨t, ht⟩ : ∃ t, o[k]? = some t := ⟨o[k]'(by have := HN.out; omega), List.getElem?_eq_getElem _⟩
      obtain ⟨g, rfl, hg, hc⟩ := hr.textAt (by have := HN.out; simp; omega)
      have e0 := (bel.cell (p := ⟨g, k, none⟩) hg).trans (hc k (tt t) (by simp [ht]))
      have HV := Lib.hid (validate_any t (HO.out.2 t (List.mem_of_getElem? ht)) wr (HT.out.below bel))
      have HB := Lib.hid bel
      obtain ⟨N, hN⟩ : ∃ N : ByteArray, ⟨(tt t).toArray⟩ = N := ⟨_, rfl⟩
      rw [hN] at e0 HV
      clear hc ht hN bel
      go_wp2_with fail
      refine HV.out.mono ?_
      rintro e w1 ⟨rfl, hb1⟩
      have F := Lib.hid (HB.out.trans (hb1.mono HB.out.size))
      clear hb1
      go_wp2_with fail
      go_roundw
      case rel => exact ⟨k + 1, by omega, by go_num, F.out⟩
      case measure => simp [intOf]; omega
    · obtain rfl : k = n := by omega
      have F := Lib.hid bel
      clear bel
      go_wp2
      go_ret
      exact ⟨rfl, F.out⟩

set_option maxRecDepth 100000 in
theorem optEval_any (A : Option Addr) (c n : Nat) (o : List Tm) (b tags : Nat) (htg : tags < 256) (w : World) (hr : RowR cellsU 1 w A (o.map tt)) (hn : o.length = n) (ho : OkO o) (hT : TabP w) (hM : IsTags w b tags) :
    Calls Tryd.prog 36 #[.slice A n c, .map (some b)] w fun e w' => e = .returned (.bool (ov tags o)) ∧ Below w.heap.size w w' := by
  have hn3 : n ≤ 3 := by have := ho.1; omega
  have HN := Lib.hid hn
  have HO := Lib.hid ho
  have HT := Lib.hid hT
  have HM := Lib.hid hM
  clear hn ho hT hM
  go_enter Tryd.func36, Tryd.ntmps36
  go_wp2_with fail
  go_loopw [5, 10] (fun r i wr => ∃ k : Nat, k ≤ n ∧ i = .int .i64 k ∧ r = .bool ((o.take k).all (tv tags)) ∧ Below w.heap.size w wr) (fun _ i _ => n - (intOf i).toNat)
  case atStart => exact ⟨0, Nat.zero_le _, rfl, rfl, Below.refl _ _⟩
  case round =>
    obtain ⟨k, hk, rfl, rfl, bel⟩ := hrel
    by_cases hlt : k < n
    · obtain ⟨t, ht⟩ : ∃ t, o[k]? = some t := ⟨o[k]'(by have := HN.out; omega), List.getElem?_eq_getElem _⟩
      obtain ⟨g, rfl, hg, hc⟩ := hr.textAt (by have := HN.out; simp; omega)
      have e0 := (bel.cell (p := ⟨g, k, none⟩) hg).trans (hc k (tt t) (by simp [ht]))
      have HV := Lib.hid (evalT_any t (HO.out.2 t (List.mem_of_getElem? ht)) b tags htg wr (HT.out.below bel) (HM.out.below bel))
      have HB := Lib.hid bel
      have HST : Hid (((o.take (k + 1)).all (tv tags)) = ((o.take k).all (tv tags) && tv tags t)) := Lib.hid (by rw [List.take_add_one, ht, List.all_append]; simp)
      obtain ⟨N, hN⟩ : ∃ N : ByteArray, ⟨(tt t).toArray⟩ = N := ⟨_, rfl⟩
      rw [hN] at e0 HV
      clear hc ht hN bel
      cases hR : (o.take k).all (tv tags) with
      | false =>
        rw [hR] at HST
        clear hR
        go_wp2_with fail
        exact ⟨⟨k + 1, by omega, by go_num, by rw [HST.out]; rfl, HB.out⟩, by simp [intOf]; omega⟩
      | true =>
        rw [hR] at HST
        clear hR
        go_wp2_with fail
        refine HV.out.mono ?_
        rintro e w1 ⟨rfl, hb1⟩
        have F := Lib.hid (HB.out.trans (hb1.mono HB.out.size))
        clear hb1
        go_wp2_with fail
        exact ⟨⟨k + 1, by omega, by go_num, by rw [HST.out]; rfl, F.out⟩, by simp [intOf]; omega⟩
    · obtain rfl : k = n := by omega
      have F := Lib.hid bel
      have hall : (o.take k).all (tv tags) = ov tags o := by rw [List.take_of_length_le (by rw [HN.out]; exact Nat.le_refl _)]; rfl
      rw [hall]
      clear bel hall
      go_wp2
      go_ret
      exact ⟨rfl, F.out⟩

theorem rows_textsU {w : World} {base : Nat} {A : Option Addr} {n c : Nat} {l : List (List UInt8)} (h : OwnR cellsU 1 9 w base (.slice A n c) l) (h0 : 0 < l.length) :
    ∃ g, A = some ⟨g, 0, none⟩ ∧ g < w.heap.size ∧ l.length ≤ c ∧ ∀ (j : Nat) x, (l.map fun s => (⟨s.toArray⟩ : ByteArray))[j]? = some x → w.cell? ⟨g, 0 + j, none⟩ = some (.string x) := by
  have hc : l.length ≤ c := by
    rcases h.2 with ⟨h1, h2⟩ | ⟨g, cap, cur, h1, h2, h3, h4, _⟩
    · omega
    · simp only [Value.slice.injEq] at h1
      omega
  obtain ⟨A', c', e', hr⟩ := h.form len_cellsU
  simp only [Value.slice.injEq] at e'
  obtain ⟨rfl, -, -⟩ := e'
  obtain ⟨g, rfl, hg, hx⟩ := hr.textAt h0
  refine ⟨g, rfl, hg, hc, fun j x hj => ?_⟩
  rw [List.getElem?_map] at hj
  obtain ⟨s, hs, rfl⟩ := Option.map_eq_some_iff.1 hj
  rw [Nat.zero_add]
  exact hx j s hs

theorem joinU_any {w : World} {base : Nat} {A : Option Addr} {n c : Nat} {l : List (List UInt8)} (h : OwnR cellsU 1 9 w base (.slice A n c) l) (hn : n = l.length) (h0 : 0 < l.length) (hl : l.length ≤ 1000) (hj : (Lib.join l [44]).length ≤ 100000) :
    Calls Tryd.prog 31 #[.slice A n c, .string ⟨#[44]⟩] w fun e w' => e = .returned (.string ⟨(Lib.join l [44]).toArray⟩) ∧ Below w.heap.size w w' := by
  obtain ⟨g, rfl, hg, hc, hx⟩ := rows_textsU h h0
  have e1 : (l.map fun s => (⟨s.toArray⟩ : ByteArray)).length = l.length := by simp
  have e2 : (l.map fun s => (⟨s.toArray⟩ : ByteArray)).map (·.data.toList) = l := by simp [List.map_map, Function.comp_def]
  have := Tryd.strings_Join g 0 c (l.map fun s => (⟨s.toArray⟩ : ByteArray)) ⟨#[44]⟩ w hx hg (by rw [e1]; omega) (by rw [e1]; exact hc) (by rw [e2]; exact Nat.le_trans hj (by decide))
  rw [e1, e2] at this
  rw [hn]
  exact this

theorem termGo_any (S : ByteArray) (w : World) : Calls Tryd.prog 47 #[.string S] w fun e w' => e = .returned (.string S) ∧ w = w' := by
  go_enter Tryd.func47, Tryd.ntmps47
  go_wp2
  go_ret
  exact ⟨rfl, rfl⟩

set_option maxHeartbeats 1000000 in
set_option maxRecDepth 100000 in
theorem optGo_any (A : Option Addr) (c n : Nat) (o : List Tm) (w : World) (hr : RowR cellsU 1 w A (o.map tt)) (hn : o.length = n) (h0 : 0 < n) (ho : OkO o) :
    Calls Tryd.prog 35 #[.slice A n c] w fun e w' => e = .returned (.string ⟨(ot o).toArray⟩) ∧ Below w.heap.size w w' := by
  have hn3 : n ≤ 3 := by have := ho.1; omega
  have HN := Lib.hid hn
  have HO := Lib.hid ho
  clear hn ho
  go_enter Tryd.func35, Tryd.ntmps35
  go_wp2_with fail
  go_loopw [3, 8] (fun v i wr => ∃ k : Nat, k ≤ n ∧ i = .int .i64 k ∧ OwnR cellsU 1 9 wr w.heap.size v ((o.take k).map tt) ∧ Below w.heap.size w wr) (fun _ i _ => n - (intOf i).toNat)
  case atStart => exact ⟨0, Nat.zero_le _, rfl, OwnR.nil _ _ _ _ _, Below.refl _ _⟩
  case round =>
    obtain ⟨k, hk, rfl, hown, bel⟩ := hrel
    by_cases hlt : k < n
    · obtain ⟨t, ht⟩ : ∃ t, o[k]? = some t := ⟨o[k]'(by have := HN.out; omega), List.getElem?_eq_getElem _⟩
      obtain ⟨g, rfl, hg, hc⟩ := hr.textAt (by have := HN.out; simp; omega)
      have e0 := (bel.cell (p := ⟨g, k, none⟩) hg).trans (hc k (tt t) (by simp [ht]))
      have HB := Lib.hid bel
      have HTK : Hid (o.take (k + 1) = o.take k ++ [t]) := Lib.hid (by rw [List.take_add_one, ht]; rfl)
      obtain ⟨N, hN⟩ : ∃ N : ByteArray, ⟨(tt t).toArray⟩ = N := ⟨_, rfl⟩
      have HNN := Lib.hid hN
      rw [hN] at e0
      have HW := Lib.hid (hown.alloc (.cells #[.string N] 9))
      have HNEW : Hid (∀ j u, (cellsU (tt t))[j]? = some u → (wr.alloc (.cells #[.string N] 9)).cell? ⟨wr.heap.size, j, none⟩ = some u) := Lib.hid (by
        intro j u hu
        match j, hu with
        | 0, hu => simp [cellsU] at hu; subst hu; simp [HNN.out])
      have HL : Hid (((o.take k).map tt).length < 4294967296) := Lib.hid (by have := HN.out; simp; omega)
      have HZ : Hid (w.heap.size ≤ (wr.alloc (.cells #[.string N] 9)).heap.size) := Lib.hid (by have := bel.size; simp; omega)
      clear hc ht hN bel hown
      go_wp2_with fail
      refine (termGo_any _ _).mono ?_
      rintro e w1 ⟨rfl, rfl⟩
      go_wp2_with ((at_builtin; (refine wpList_app1 _ rfl len_cellsU one_cellsU (by decide) 16 _ rfl (by decide) (.tmp 12) (.tmp 15) 33 9 rfl Tryd.underlying33 infoU9 w.heap.size u3 ((o.take k).map tt) rfl HW.out wr.heap.size 1 (tt t) rfl HNEW.out HL.out HZ.out ?_); intro v2 w2 h2 g2 o2 n2))
      have F := (HB.out.alloc HB.out.size _).grown g2 HZ.out HW.out.le
      have F1 : OwnR cellsU 1 9 w2 w.heap.size v2 ((o.take (k + 1)).map tt) := by rw [HTK.out, List.map_append]; exact h2
      exact ⟨⟨k + 1, by omega, by go_num, F1, F⟩, by simp [intOf]; omega⟩
    · obtain rfl : k = n := by omega
      rw [List.take_of_length_le (by rw [HN.out]; exact Nat.le_refl _)] at hown
      obtain ⟨A2, c2, e2, -⟩ := hown.form len_cellsU
      have hlen : (o.map tt).length = k := by simp [HN.out]
      rw [hlen] at e2
      subst e2
      have HJ := Lib.hid (joinU_any hown hlen.symm (by omega) (by omega) (by have := ot_len HO.out.1; unfold ot at this; omega))
      have F := Lib.hid bel
      have HOT : Hid (Lib.join (o.map tt) [44] = ot o) := Lib.hid rfl
      rw [HOT.out] at HJ
      obtain ⟨N, hN⟩ : ∃ N : ByteArray, ⟨(ot o).toArray⟩ = N := ⟨_, rfl⟩
      have HNN := Lib.hid hN
      rw [hN] at HJ
      clear hown bel hlen hN
      go_wp2_with fail
      refine HJ.out.mono ?_
      rintro e w1 ⟨rfl, hb1⟩
      have F2 := Lib.hid (F.out.trans (hb1.mono F.out.size))
      clear hb1
      go_wp2
      go_ret
      exact ⟨by rw [HNN.out]; rfl, F2.out⟩

end Go.Proofs.YtjmmfhgdjndabaaRRDoor
