/- Walks of a constraint: that it is right, what it tells of tags, its text. Conditions: the library's table lies as it is laid; lengths as stated. -/
import Derived.Test.YtjmmfhgdjndabaaRRDoorTagE
namespace Go.Proofs.YtjmmfhgdjndabaaRRDoor
open Go.RowKit Go.Maps

/-- Options of terms of the six tags. -/
def OkC (c : List (List Tm)) : Prop := c.length ≤ 6 ∧ ∀ o ∈ c, OkO o ∧ o ≠ []

/-- A slice value reads as the constraint c. -/
def ConR (w : World) (A : Option Addr) (c : List (List Tm)) : Prop :=
  0 < c.length → ∃ g, A = some ⟨g, 0, none⟩ ∧ g < w.heap.size ∧ ∀ k o, c[k]? = some o → ∃ A' c', w.cell? ⟨g, k, none⟩ = some (.slice A' o.length c') ∧ RowR cellsU 1 w A' (o.map tt)
theorem ConR.below {w w' : World} {A : Option Addr} {c : List (List Tm)} (h : ConR w A c) (hb : Below w.heap.size w w') : ConR w' A c := fun h0 => by
  obtain ⟨g, e, hg, hc⟩ := h h0
  refine ⟨g, e, Nat.lt_of_lt_of_le hg hb.size, fun k o ho => ?_⟩
  obtain ⟨A', c', h1, h2⟩ := hc k o ho
  exact ⟨A', c', (hb.cell (p := ⟨g, k, none⟩) hg).trans h1, h2.below hb⟩

set_option maxRecDepth 100000 in
theorem conValidate_any (A : Option Addr) (cp n : Nat) (c : List (List Tm)) (w : World) (hr : ConR w A c) (hn : c.length = n) (ho : OkC c) (hT : TabP w) :
    Calls Tryd.prog 21 #[.slice A n cp] w fun e w' => e = .returned .nilIface ∧ Below w.heap.size w w' := by
  have hn6 : n ≤ 6 := by have := ho.1; omega
  have HN := Lib.hid hn
  have HO := Lib.hid ho
  have HT := Lib.hid hT
  clear hn ho hT
  go_enter Tryd.func21, Tryd.ntmps21
  go_wp2_with fail
  go_loopw [8] (fun i wr => ∃ k : Nat, k ≤ n ∧ i = .int .i64 k ∧ Below w.heap.size w wr) (fun i _ => n - (intOf i).toNat)
  case atStart => exact ⟨0, Nat.zero_le _, rfl, Below.refl _ _⟩
  case round =>
    obtain ⟨k, hk, rfl, bel⟩ := hrel
    by_cases hlt : k < n
    · obtain ⟨o, ho⟩ : ∃ o, c[k]? = some o := ⟨c[k]'(by have := HN.out; omega), List.getElem?_eq_getElem _⟩
      obtain ⟨g, rfl, hg, hc⟩ := hr (by have := HN.out; omega)
      obtain ⟨A', c', h1, h2⟩ := hc k o ho
      have e0 := (bel.cell (p := ⟨g, k, none⟩) hg).trans h1
      have hok := HO.out.2 o (List.mem_of_getElem? ho)
      have HV := Lib.hid (optValidate_any A' c' o.length o wr (h2.below bel) rfl hok.1 (HT.out.below bel))
      have HB := Lib.hid bel
      obtain ⟨m, hm⟩ : ∃ m, o.length = m := ⟨_, rfl⟩
      rw [hm] at e0 HV
      clear hc h1 h2 ho hok bel hm
      go_wp2_with fail
      refine HV.out.mono ?_
      rintro e w1 ⟨rfl, hb1⟩
      have F := Lib.hid (HB.out.trans (hb1.mono HB.out.size))
      clear hb1
      go_wp2_with fail
      go_roundw
      case rel => exact ⟨k + 1, by omega, by go_num, F.out⟩
      case measure => simp [intOf]; omega
    · obtain rfl : k = n := by omega
      have F := Lib.hid bel
      clear bel
      go_wp2
      go_ret
      exact ⟨rfl, F.out⟩

set_option maxRecDepth 100000 in
theorem conEval_any (A : Option Addr) (cp n : Nat) (c : List (List Tm)) (b tags : Nat) (htg : tags < 256) (w : World) (hr : ConR w A c) (hn : c.length = n) (ho : OkC c) (hT : TabP w) (hM : IsTags w b tags) :
    Calls Tryd.prog 23 #[.slice A n cp, .map (some b)] w fun e w' => e = .returned (.bool (cv tags c)) ∧ Below w.heap.size w w' := by
  have hn6 : n ≤ 6 := by have := ho.1; omega
  have HN := Lib.hid hn
  have HO := Lib.hid ho
  have HT := Lib.hid hT
  have HM := Lib.hid hM
  clear hn ho hT hM
  go_enter Tryd.func23, Tryd.ntmps23
  go_wp2_with fail
  go_loopw [5, 10] (fun r i wr => ∃ k : Nat, k ≤ n ∧ i = .int .i64 k ∧ r = .bool ((c.take k).any (ov tags)) ∧ Below w.heap.size w wr) (fun _ i _ => n - (intOf i).toNat)
  case atStart => exact ⟨0, Nat.zero_le _, rfl, rfl, Below.refl _ _⟩
  case round =>
    obtain ⟨k, hk, rfl, rfl, bel⟩ := hrel
    by_cases hlt : k < n
    · obtain ⟨o, ho⟩ : ∃ o, c[k]? = some o := ⟨c[k]'(by have := HN.out; omega), List.getElem?_eq_getElem _⟩
      obtain ⟨g, rfl, hg, hc⟩ := hr (by have := HN.out; omega)
      obtain ⟨A', c', h1, h2⟩ := hc k o ho
      have e0 := (bel.cell (p := ⟨g, k, none⟩) hg).trans h1
      have hok := HO.out.2 o (List.mem_of_getElem? ho)
      have HV := Lib.hid (optEval_any A' c' o.length o b tags htg wr (h2.below bel) rfl hok.1 (HT.out.below bel) (HM.out.below bel))
      have HB := Lib.hid bel
      have HST : Hid (((c.take (k + 1)).any (ov tags)) = ((c.take k).any (ov tags) || ov tags o)) := Lib.hid (by rw [List.take_add_one, ho, List.any_append]; simp)
      obtain ⟨m, hm⟩ : ∃ m, o.length = m := ⟨_, rfl⟩
      rw [hm] at e0 HV
      clear hc h1 h2 ho hok bel hm
      cases hR : (c.take k).any (ov tags) with
      | true =>
        rw [hR] at HST
        clear hR
        go_wp2_with fail
        exact ⟨⟨k + 1, by omega, by go_num, by rw [HST.out]; rfl, HB.out⟩, by simp [intOf]; omega⟩
      | false =>
        rw [hR] at HST
        clear hR
        go_wp2_with fail
        refine HV.out.mono ?_
        rintro e w1 ⟨rfl, hb1⟩
        have F := Lib.hid (HB.out.trans (hb1.mono HB.out.size))
        clear hb1
        go_wp2_with fail
        exact ⟨⟨k + 1, by omega, by go_num, by rw [HST.out]; rfl, F.out⟩, by simp [intOf]; omega⟩
    · obtain rfl : k = n := by omega
      have F := Lib.hid bel
      have hall : (c.take k).any (ov tags) = cv tags c := by rw [List.take_of_length_le (by rw [HN.out]; exact Nat.le_refl _)]; rfl
      rw [hall]
      clear bel hall
      go_wp2
      go_ret
      exact ⟨rfl, F.out⟩

/-- The text ahead of k options' end. -/
def goK (c : List (List Tm)) (k : Nat) : List UInt8 := [47, 47, 32, 43, 98, 117, 105, 108, 100] ++ ((c.take k).map fun o => 32 :: ot o).flatten
theorem goK_step {c : List (List Tm)} {k : Nat} {o : List Tm} (h : c[k]? = some o) : goK c (k + 1) = goK c k ++ 32 :: ot o := by
  unfold goK
  rw [List.take_add_one, h]
  simp
theorem goK_len {c : List (List Tm)} (hc : OkC c) : ∀ k, k ≤ c.length → (goK c k).length ≤ 9 + 25 * k
  | 0, _ => by simp [goK]
  | k + 1, hk => by
    have h1 := goK_len hc k (by omega)
    have ho : c[k]? = some (c[k]'(by omega)) := List.getElem?_eq_getElem _
    have h2 := ot_len (hc.2 _ (List.mem_of_getElem? ho)).1.1
    rw [goK_step ho]
    simp
    omega
/-- A constraint's text again. -/
def goC (c : List (List Tm)) : List UInt8 := [47, 47, 32, 43, 98, 117, 105, 108, 100, 32] ++ ct c ++ [10]
theorem goK_end {c : List (List Tm)} (h0 : c ≠ []) : goK c c.length ++ [10] = goC c := by
  cases c with
  | nil => exact absurd rfl h0
  | cons o r =>
    have e : (r.map fun o => 32 :: ot o) = (r.map ot).map ([32] ++ ·) := by simp [List.map_map, Function.comp_def]
    unfold goK goC ct
    rw [List.take_of_length_le (Nat.le_refl _), List.map_cons, List.map_cons, Lib.join_cons, List.flatten_cons, e]
    unfold Lib.joinTail
    simp

set_option maxHeartbeats 1000000 in
set_option maxRecDepth 100000 in
theorem conGo_any (A : Option Addr) (cp n : Nat) (c : List (List Tm)) (w : World) (hr : ConR w A c) (hn : c.length = n) (h0 : 0 < n) (ho : OkC c) :
    Calls Tryd.prog 22 #[.slice A n cp] w fun e w' => e = .returned (.string ⟨(goC c).toArray⟩) ∧ Below w.heap.size w w' := by
  have hn6 : n ≤ 6 := by have := ho.1; omega
  have HN := Lib.hid hn
  have HO := Lib.hid ho
  clear hn ho
  go_enter Tryd.func22, Tryd.ntmps22
  go_wp2_with fail
  go_loopw [3, 8] (fun s i wr => ∃ (k : Nat) (S : ByteArray), k ≤ n ∧ i = .int .i64 k ∧ s = .string S ∧ S = ⟨(goK c k).toArray⟩ ∧ S.size ≤ 200 ∧ Below w.heap.size w wr) (fun _ i _ => n - (intOf i).toNat)
  case atStart => exact ⟨0, _, Nat.zero_le _, rfl, rfl, rfl, by decide, Below.refl _ _⟩
  case round =>
    obtain ⟨k, S, hk, rfl, rfl, hS, hS2, bel⟩ := hrel
    have HS := Lib.hid hS
    clear hS
    by_cases hlt : k < n
    · obtain ⟨o, ho⟩ : ∃ o, c[k]? = some o := ⟨c[k]'(by have := HN.out; omega), List.getElem?_eq_getElem _⟩
      obtain ⟨g, rfl, hg, hc⟩ := hr (by have := HN.out; omega)
      obtain ⟨A', c', h1, h2⟩ := hc k o ho
      have e0 := (bel.cell (p := ⟨g, k, none⟩) hg).trans h1
      have hok := HO.out.2 o (List.mem_of_getElem? ho)
      have hop : 0 < o.length := by cases o with | nil => exact absurd rfl hok.2 | cons _ _ => simp
      have HV := Lib.hid (optGo_any A' c' o.length o wr (h2.below bel) rfl hop hok.1)
      have HB := Lib.hid bel
      have hol : (ot o).length ≤ 24 := ot_len hok.1.1
      have HST : Hid (∀ O : ByteArray, O = ⟨(ot o).toArray⟩ → S ++ ((⟨#[32]⟩ : ByteArray) ++ O) = ⟨(goK c (k + 1)).toArray⟩) := Lib.hid (fun O hO => by
        rw [HS.out, hO, goK_step ho]
        apply ByteArray.ext
        simp)
      have HGL := Lib.hid (goK_len HO.out (k + 1) (by have := HN.out; omega))
      obtain ⟨m, hm⟩ : ∃ m, o.length = m := ⟨_, rfl⟩
      rw [hm] at e0 HV
      obtain ⟨O, hO⟩ : ∃ O : ByteArray, ⟨(ot o).toArray⟩ = O := ⟨_, rfl⟩
      have hOs : O.size ≤ 24 := by rw [← hO]; simpa [ByteArray.size] using hol
      have HOO := Lib.hid hO.symm
      rw [hO] at HV
      clear hc h1 h2 ho hok bel hm hop hO hol
      go_wp2_with fail
      refine HV.out.mono ?_
      rintro e w1 ⟨rfl, hb1⟩
      have F := Lib.hid (HB.out.trans (hb1.mono HB.out.size))
      clear hb1
      go_wp2_with fail
      have FS := HST.out O HOO.out
      have FZ : (S ++ ((⟨#[32]⟩ : ByteArray) ++ O)).size ≤ 200 := by
        rw [FS]
        have := HGL.out
        simp [ByteArray.size]
        omega
      exact ⟨⟨k + 1, _, by omega, by go_num, rfl, FS, FZ, F.out⟩, by simp [intOf]; omega⟩
    · obtain rfl : k = n := by omega
      have F := Lib.hid bel
      clear bel
      go_wp2
      go_ret
      refine ⟨?_, F.out⟩
      have h1 := goK_end (c := c) (by intro e; have := HN.out; rw [e] at this; simp at this; omega)
      have h2 : S ++ (⟨#[10]⟩ : ByteArray) = ⟨(goC c).toArray⟩ := by
        rw [HS.out, ← h1, HN.out]
        apply ByteArray.ext
        simp
      rw [← h2]
      rfl

end Go.Proofs.YtjmmfhgdjndabaaRRDoor
