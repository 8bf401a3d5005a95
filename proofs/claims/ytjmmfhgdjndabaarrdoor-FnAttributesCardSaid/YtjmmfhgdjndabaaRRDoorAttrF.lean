/- Walk of the reference's Flags: the names of a number's bits, joined. Conditions: twelve bits, the eighth not set. -/
import Derived.Test.YtjmmfhgdjndabaaRRDoorAttrA
namespace Go.Proofs.YtjmmfhgdjndabaaRRDoor
open Go.RowKit Go.Maps

/-- The reference's list of names. -/
def flagRow : Array Value := #[.string ⟨#[78, 79, 80, 82, 79, 70]⟩, .string ⟨#[68, 85, 80, 79, 75]⟩, .string ⟨#[78, 79, 83, 80, 76, 73, 84]⟩, .string ⟨#[82, 79, 68, 65, 84, 65]⟩, .string ⟨#[78, 79, 80, 84, 82]⟩, .string ⟨#[87, 82, 65, 80, 80, 69, 82]⟩, .string ⟨#[78, 69, 69, 68, 67, 84, 88, 84]⟩, .string ⟨#[]⟩, .string ⟨#[84, 76, 83, 66, 83, 83]⟩, .string ⟨#[78, 79, 70, 82, 65, 77, 69]⟩, .string ⟨#[82, 69, 70, 76, 69, 67, 84, 77, 69, 84, 72, 79, 68]⟩, .string ⟨#[84, 79, 80, 70, 82, 65, 77, 69]⟩]

/-- What holds at a round's head of Flags. -/
structure FlS (a k : Nat) (O : ByteArray) : Prop where
  eq : O = ⟨(JN a k).toArray⟩
  le : O.size ≤ 200

theorem cl_bit {a k : Nat} {P : Int} (hP : P = ((2 ^ k : Nat) : Int)) : bits .and .i64 ((cl a k : Nat) / P) 1 = bits .and .i64 ((a / 2 ^ k : Nat) : Int) 1 := by
  have h : ((cl a k : Nat) : Int) / P = ((a / 2 ^ k : Nat) : Int) := by
    rw [hP, ← Int.natCast_ediv]
    unfold cl
    rw [Nat.mul_div_cancel _ (Nat.two_pow_pos k)]
  rw [h]
theorem bit_one {a k : Nat} {x : Int} (hx : x = ((a / 2 ^ k : Nat) : Int)) (ha : a < 4096) : bits .and .i64 x 1 = ((a / 2 ^ k % 2 : Nat) : Int) := by
  have h2 : a / 2 ^ k ≤ a := Nat.div_le_self _ _
  rw [hx, show (1 : Int) = ((1 : Nat) : Int) from rfl, i64_and_small _ _ (by omega) (by decide), Nat.and_one_is_mod]
theorem cl_div {a k : Nat} {P : Int} (hP : P = ((2 ^ k : Nat) : Int)) : ((cl a k : Nat) : Int) / P = ((a / 2 ^ k : Nat) : Int) := by
  rw [hP, ← Int.natCast_ediv]
  unfold cl
  rw [Nat.mul_div_cancel _ (Nat.two_pow_pos k)]
theorem cl_le (a k : Nat) : cl a k ≤ a := Nat.div_mul_le_self _ _
theorem cl_clear {a k : Nat} {P : Int} (hP : P = ((2 ^ k : Nat) : Int)) (ha : a < 4096) (hk : k < 12) : bits .andNot .i64 ((cl a k : Nat) : Int) P = ((cl a (k + 1) : Nat) : Int) := by
  have h1 := cl_le a k
  have h2 : 2 ^ k < 65536 := Nat.lt_of_lt_of_le (Nat.pow_lt_pow_right (by decide) hk) (by decide)
  rw [hP, i64_andNot_small _ _ (by omega) h2, cl_step ha hk]
theorem cl_keep {a k : Nat} (h : a / 2 ^ k % 2 = 0) : cl a (k + 1) = cl a k := by
  unfold cl
  rw [Nat.pow_succ, ← Nat.div_div_eq_div_mul]
  obtain ⟨q, hq⟩ : ∃ q, a / 2 ^ k = q := ⟨_, rfl⟩
  rw [hq] at h ⊢
  have e : q / 2 * 2 = q := by omega
  calc q / 2 * (2 ^ k * 2) = (q / 2 * 2) * 2 ^ k := by rw [Nat.mul_comm (2 ^ k) 2, Nat.mul_assoc]
    _ = q * 2 ^ k := by rw [e]
theorem cl_end {a : Nat} (ha : a < 4096) : cl a 12 = 0 := by
  unfold cl
  rw [Nat.div_eq_of_lt (by omega)]
theorem cl_start (a : Nat) : cl a 0 = a := by simp [cl]

set_option maxHeartbeats 4000000 in
set_option maxRecDepth 100000 in
theorem flags_any (a : Nat) (w : World) (ha : Good a) :
    Calls Tryd.prog 8 #[.int .i64 (a : Int)] w fun e w' => e = .returned (.tuple #[.string ⟨(AN a).toArray⟩, .bool (!(NB a 12).isEmpty)]) ∧ Below w.heap.size w w' := by
  have HA := Lib.hid ha
  have a4 := ha.1
  clear ha
  have HW : Hid (∀ k s, flagRow[k]? = some s → (w.alloc (.cells flagRow 9)).cell? ⟨w.heap.size, k, none⟩ = some s) := Lib.hid (fun k s hk => by
    rw [cell_of_row (w.alloc (.cells flagRow 9)) w.heap.size k flagRow 9 (0, 0) (MapKept.heap_alloc w _).1]
    exact hk)
  have bel0 : Below w.heap.size w (w.alloc (.cells flagRow 9)) := (Below.refl _ _).alloc (Nat.le_refl _) _
  have HDEC : Hid (∀ W : World, Calls Tryd.prog 17 #[.int .i64 0] W fun e w' => e = .returned (.string ⟨#[48]⟩) ∧ W = w') := Lib.hid (fun W => by
    go_enter Tryd.func17, Tryd.ntmps17
    go_wp2
    go_ret
    exact ⟨rfl, rfl⟩)
  go_enter Tryd.func8, Tryd.ntmps8
  go_wp2_with fail
  go_loopw [0, 4, 5, 10] (fun b o nd i wr => ∃ (k : Nat) (O : ByteArray), k ≤ 12 ∧ i = .int .i64 k ∧ b = .int .i64 (cl a k : Nat) ∧ o = .string O ∧ nd = .bool (!(NB a k).isEmpty) ∧ FlS a k O ∧ wr = w.alloc (.cells flagRow 9)) (fun _ _ _ i _ => 12 - (intOf i).toNat)
  case atStart =>
    exact ⟨0, ⟨#[]⟩, by decide, rfl, by rw [cl_start], rfl, rfl, ⟨rfl, by decide⟩, rfl⟩
  case round =>
    obtain ⟨k, O, hk, rfl, rfl, rfl, rfl, hF, rfl⟩ := hrel
    have hcase : k = 0 ∨ k = 1 ∨ k = 2 ∨ k = 3 ∨ k = 4 ∨ k = 5 ∨ k = 6 ∨ k = 7 ∨ k = 8 ∨ k = 9 ∨ k = 10 ∨ k = 11 ∨ k = 12 := by omega
    have HF := Lib.hid hF
    have hle := hF.le
    clear hF
    rcases hcase with rfl | rfl | rfl | rfl | rfl | rfl | rfl | rfl | rfl | rfl | rfl | rfl | rfl
    · have hcell : (w.alloc (.cells flagRow 9)).cell? ⟨w.heap.size, 0, none⟩ = some (.string ⟨#[78, 79, 80, 82, 79, 70]⟩) := HW.out 0 _ rfl
      have hb := bit_one (a := a) (k := 0) (cl_div (a := a) (k := 0) (P := 1) rfl) a4
      have HCL := Lib.hid (cl_clear (a := a) (k := 0) (P := 1) rfl a4 (by decide))
      obtain ⟨x, hx⟩ : ∃ x, cl a 0 = x := ⟨_, rfl⟩
      have HX := Lib.hid hx
      rw [hx] at hb HCL ⊢
      clear hx
      obtain ⟨N, hN⟩ : ∃ N : Bool, (!(NB a 0).isEmpty) = N := ⟨_, rfl⟩
      have HN := Lib.hid hN
      rw [hN]
      clear hN
      rw [Int.ediv_one] at hb
      by_cases hs : a / 2 ^ 0 % 2 = 1
      · have ht : (bits .and .i64 (x : Int) 1 == 1) = true := by rw [hb, hs]; rfl
        have hc : bits .andNot .i64 (x : Int) 1 = ((cl a 1 : Nat) : Int) := HCL.out
        have HS := Lib.hid hs
        have FN : Hid ((!(NB a 1).isEmpty) = true) := Lib.hid (by rw [NB_set (k := 0) hs]; simp)
        clear hb hs
        by_cases h0 : NB a 0 = []
        · have hO : O = ⟨#[]⟩ := by rw [HF.out.eq]; unfold JN; rw [h0]; rfl
          subst hO
          have FS : Hid (FlS a 1 (⟨#[]⟩ ++ ⟨#[78, 79, 80, 82, 79, 70]⟩)) := Lib.hid ⟨by rw [JN_first (k := 0) HS.out h0]; rfl, by decide⟩
          have hNf : N = false := by rw [← HN.out, h0]; rfl
          subst hNf
          clear h0
          go_wp2_with fail
          exact ⟨⟨1, _, by decide, rfl, by rw [← hc], rfl, by rw [FN.out], FS.out, trivial⟩, by simp [intOf]⟩
        · have hNe := JN_ne HA.out 0 (by decide) h0
          have hO1 : O.toList ≠ [] := by rw [HF.out.eq, Lib.toList_data]; exact hNe
          have FS : Hid (FlS a 1 (O ++ ⟨#[124]⟩ ++ ⟨#[78, 79, 80, 82, 79, 70]⟩)) := Lib.hid (by
            have e : O ++ ⟨#[124]⟩ ++ ⟨#[78, 79, 80, 82, 79, 70]⟩ = (⟨(JN a 1).toArray⟩ : ByteArray) := by
              rw [JN_more (k := 0) HS.out h0, HF.out.eq]
              apply ByteArray.ext
              simp [nm]
            refine ⟨e, ?_⟩
            rw [e]
            have := JN_len a 1
            simp [ByteArray.size]
            omega)
          have hO2 : (O.toList == []) = false := by simpa using hO1
          clear h0 hNe hO1
          go_wp2_with fail
          exact ⟨⟨1, _, by decide, rfl, by rw [← hc], rfl, by rw [FN.out], FS.out, trivial⟩, by simp [intOf]⟩
      · have h2 : a / 2 ^ 0 % 2 = 0 := by omega
        have ht : (bits .and .i64 (x : Int) 1 == 1) = false := by rw [hb, h2]; rfl
        have F1 : Hid (((cl a 1 : Nat) : Int) = (x : Int)) := Lib.hid (by rw [cl_keep h2, HX.out])
        have FN : Hid ((!(NB a 1).isEmpty) = N) := Lib.hid (by rw [NB_not (k := 0) hs]; exact HN.out)
        have FS : Hid (FlS a 1 O) := Lib.hid ⟨by rw [JN_not (k := 0) hs]; exact HF.out.eq, HF.out.le⟩
        clear hb hs h2
        go_wp2_with fail
        exact ⟨⟨1, _, by decide, rfl, by rw [F1.out], rfl, by rw [FN.out], FS.out, trivial⟩, by simp [intOf]⟩
    · have hcell : (w.alloc (.cells flagRow 9)).cell? ⟨w.heap.size, 1, none⟩ = some (.string ⟨#[68, 85, 80, 79, 75]⟩) := HW.out 1 _ rfl
      have hb := bit_one (a := a) (k := 1) (cl_div (a := a) (k := 1) (P := 2) rfl) a4
      have HCL := Lib.hid (cl_clear (a := a) (k := 1) (P := 2) rfl a4 (by decide))
      obtain ⟨x, hx⟩ : ∃ x, cl a 1 = x := ⟨_, rfl⟩
      have HX := Lib.hid hx
      rw [hx] at hb HCL ⊢
      clear hx
      obtain ⟨N, hN⟩ : ∃ N : Bool, (!(NB a 1).isEmpty) = N := ⟨_, rfl⟩
      have HN := Lib.hid hN
      rw [hN]
      clear hN
      by_cases hs : a / 2 ^ 1 % 2 = 1
      · have ht : (bits .and .i64 ((x : Int) / 2) 1 == 1) = true := by rw [hb, hs]; rfl
        have hc : bits .andNot .i64 (x : Int) 2 = ((cl a 2 : Nat) : Int) := HCL.out
        have HS := Lib.hid hs
        have FN : Hid ((!(NB a 2).isEmpty) = true) := Lib.hid (by rw [NB_set (k := 1) hs]; simp)
        clear hb hs
        by_cases h0 : NB a 1 = []
        · have hO : O = ⟨#[]⟩ := by rw [HF.out.eq]; unfold JN; rw [h0]; rfl
          subst hO
          have FS : Hid (FlS a 2 (⟨#[]⟩ ++ ⟨#[68, 85, 80, 79, 75]⟩)) := Lib.hid ⟨by rw [JN_first (k := 1) HS.out h0]; rfl, by decide⟩
          have hNf : N = false := by rw [← HN.out, h0]; rfl
          subst hNf
          clear h0
          go_wp2_with fail
          exact ⟨⟨2, _, by decide, rfl, by rw [← hc], rfl, by rw [FN.out], FS.out, trivial⟩, by simp [intOf]⟩
        · have hNe := JN_ne HA.out 1 (by decide) h0
          have hO1 : O.toList ≠ [] := by rw [HF.out.eq, Lib.toList_data]; exact hNe
          have FS : Hid (FlS a 2 (O ++ ⟨#[124]⟩ ++ ⟨#[68, 85, 80, 79, 75]⟩)) := Lib.hid (by
            have e : O ++ ⟨#[124]⟩ ++ ⟨#[68, 85, 80, 79, 75]⟩ = (⟨(JN a 2).toArray⟩ : ByteArray) := by
              rw [JN_more (k := 1) HS.out h0, HF.out.eq]
              apply ByteArray.ext
              simp [nm]
            refine ⟨e, ?_⟩
            rw [e]
            have := JN_len a 2
            simp [ByteArray.size]
            omega)
          have hO2 : (O.toList == []) = false := by simpa using hO1
          clear h0 hNe hO1
          go_wp2_with fail
          exact ⟨⟨2, _, by decide, rfl, by rw [← hc], rfl, by rw [FN.out], FS.out, trivial⟩, by simp [intOf]⟩
      · have h2 : a / 2 ^ 1 % 2 = 0 := by omega
        have ht : (bits .and .i64 ((x : Int) / 2) 1 == 1) = false := by rw [hb, h2]; rfl
        have F1 : Hid (((cl a 2 : Nat) : Int) = (x : Int)) := Lib.hid (by rw [cl_keep h2, HX.out])
        have FN : Hid ((!(NB a 2).isEmpty) = N) := Lib.hid (by rw [NB_not (k := 1) hs]; exact HN.out)
        have FS : Hid (FlS a 2 O) := Lib.hid ⟨by rw [JN_not (k := 1) hs]; exact HF.out.eq, HF.out.le⟩
        clear hb hs h2
        go_wp2_with fail
        exact ⟨⟨2, _, by decide, rfl, by rw [F1.out], rfl, by rw [FN.out], FS.out, trivial⟩, by simp [intOf]⟩
    · have hcell : (w.alloc (.cells flagRow 9)).cell? ⟨w.heap.size, 2, none⟩ = some (.string ⟨#[78, 79, 83, 80, 76, 73, 84]⟩) := HW.out 2 _ rfl
      have hb := bit_one (a := a) (k := 2) (cl_div (a := a) (k := 2) (P := 4) rfl) a4
      have HCL := Lib.hid (cl_clear (a := a) (k := 2) (P := 4) rfl a4 (by decide))
      obtain ⟨x, hx⟩ : ∃ x, cl a 2 = x := ⟨_, rfl⟩
      have HX := Lib.hid hx
      rw [hx] at hb HCL ⊢
      clear hx
      obtain ⟨N, hN⟩ : ∃ N : Bool, (!(NB a 2).isEmpty) = N := ⟨_, rfl⟩
      have HN := Lib.hid hN
      rw [hN]
      clear hN
      by_cases hs : a / 2 ^ 2 % 2 = 1
      · have ht : (bits .and .i64 ((x : Int) / 4) 1 == 1) = true := by rw [hb, hs]; rfl
        have hc : bits .andNot .i64 (x : Int) 4 = ((cl a 3 : Nat) : Int) := HCL.out
        have HS := Lib.hid hs
        have FN : Hid ((!(NB a 3).isEmpty) = true) := Lib.hid (by rw [NB_set (k := 2) hs]; simp)
        clear hb hs
        by_cases h0 : NB a 2 = []
        · have hO : O = ⟨#[]⟩ := by rw [HF.out.eq]; unfold JN; rw [h0]; rfl
          subst hO
          have FS : Hid (FlS a 3 (⟨#[]⟩ ++ ⟨#[78, 79, 83, 80, 76, 73, 84]⟩)) := Lib.hid ⟨by rw [JN_first (k := 2) HS.out h0]; rfl, by decide⟩
          have hNf : N = false := by rw [← HN.out, h0]; rfl
          subst hNf
          clear h0
          go_wp2_with fail
          exact ⟨⟨3, _, by decide, rfl, by rw [← hc], rfl, by rw [FN.out], FS.out, trivial⟩, by simp [intOf]⟩
        · have hNe := JN_ne HA.out 2 (by decide) h0
          have hO1 : O.toList ≠ [] := by rw [HF.out.eq, Lib.toList_data]; exact hNe
          have FS : Hid (FlS a 3 (O ++ ⟨#[124]⟩ ++ ⟨#[78, 79, 83, 80, 76, 73, 84]⟩)) := Lib.hid (by
            have e : O ++ ⟨#[124]⟩ ++ ⟨#[78, 79, 83, 80, 76, 73, 84]⟩ = (⟨(JN a 3).toArray⟩ : ByteArray) := by
              rw [JN_more (k := 2) HS.out h0, HF.out.eq]
              apply ByteArray.ext
              simp [nm]
            refine ⟨e, ?_⟩
            rw [e]
            have := JN_len a 3
            simp [ByteArray.size]
            omega)
          have hO2 : (O.toList == []) = false := by simpa using hO1
          clear h0 hNe hO1
          go_wp2_with fail
          exact ⟨⟨3, _, by decide, rfl, by rw [← hc], rfl, by rw [FN.out], FS.out, trivial⟩, by simp [intOf]⟩
      · have h2 : a / 2 ^ 2 % 2 = 0 := by omega
        have ht : (bits .and .i64 ((x : Int) / 4) 1 == 1) = false := by rw [hb, h2]; rfl
        have F1 : Hid (((cl a 3 : Nat) : Int) = (x : Int)) := Lib.hid (by rw [cl_keep h2, HX.out])
        have FN : Hid ((!(NB a 3).isEmpty) = N) := Lib.hid (by rw [NB_not (k := 2) hs]; exact HN.out)
        have FS : Hid (FlS a 3 O) := Lib.hid ⟨by rw [JN_not (k := 2) hs]; exact HF.out.eq, HF.out.le⟩
        clear hb hs h2
        go_wp2_with fail
        exact ⟨⟨3, _, by decide, rfl, by rw [F1.out], rfl, by rw [FN.out], FS.out, trivial⟩, by simp [intOf]⟩
    · have hcell : (w.alloc (.cells flagRow 9)).cell? ⟨w.heap.size, 3, none⟩ = some (.string ⟨#[82, 79, 68, 65, 84, 65]⟩) := HW.out 3 _ rfl
      have hb := bit_one (a := a) (k := 3) (cl_div (a := a) (k := 3) (P := 8) rfl) a4
      have HCL := Lib.hid (cl_clear (a := a) (k := 3) (P := 8) rfl a4 (by decide))
      obtain ⟨x, hx⟩ : ∃ x, cl a 3 = x := ⟨_, rfl⟩
      have HX := Lib.hid hx
      rw [hx] at hb HCL ⊢
      clear hx
      obtain ⟨N, hN⟩ : ∃ N : Bool, (!(NB a 3).isEmpty) = N := ⟨_, rfl⟩
      have HN := Lib.hid hN
      rw [hN]
      clear hN
      by_cases hs : a / 2 ^ 3 % 2 = 1
      · have ht : (bits .and .i64 ((x : Int) / 8) 1 == 1) = true := by rw [hb, hs]; rfl
        have hc : bits .andNot .i64 (x : Int) 8 = ((cl a 4 : Nat) : Int) := HCL.out
        have HS := Lib.hid hs
        have FN : Hid ((!(NB a 4).isEmpty) = true) := Lib.hid (by rw [NB_set (k := 3) hs]; simp)
        clear hb hs
        by_cases h0 : NB a 3 = []
        · have hO : O = ⟨#[]⟩ := by rw [HF.out.eq]; unfold JN; rw [h0]; rfl
          subst hO
          have FS : Hid (FlS a 4 (⟨#[]⟩ ++ ⟨#[82, 79, 68, 65, 84, 65]⟩)) := Lib.hid ⟨by rw [JN_first (k := 3) HS.out h0]; rfl, by decide⟩
          have hNf : N = false := by rw [← HN.out, h0]; rfl
          subst hNf
          clear h0
          go_wp2_with fail
          exact ⟨⟨4, _, by decide, rfl, by rw [← hc], rfl, by rw [FN.out], FS.out, trivial⟩, by simp [intOf]⟩
        · have hNe := JN_ne HA.out 3 (by decide) h0
          have hO1 : O.toList ≠ [] := by rw [HF.out.eq, Lib.toList_data]; exact hNe
          have FS : Hid (FlS a 4 (O ++ ⟨#[124]⟩ ++ ⟨#[82, 79, 68, 65, 84, 65]⟩)) := Lib.hid (by
            have e : O ++ ⟨#[124]⟩ ++ ⟨#[82, 79, 68, 65, 84, 65]⟩ = (⟨(JN a 4).toArray⟩ : ByteArray) := by
              rw [JN_more (k := 3) HS.out h0, HF.out.eq]
              apply ByteArray.ext
              simp [nm]
            refine ⟨e, ?_⟩
            rw [e]
            have := JN_len a 4
            simp [ByteArray.size]
            omega)
          have hO2 : (O.toList == []) = false := by simpa using hO1
          clear h0 hNe hO1
          go_wp2_with fail
          exact ⟨⟨4, _, by decide, rfl, by rw [← hc], rfl, by rw [FN.out], FS.out, trivial⟩, by simp [intOf]⟩
      · have h2 : a / 2 ^ 3 % 2 = 0 := by omega
        have ht : (bits .and .i64 ((x : Int) / 8) 1 == 1) = false := by rw [hb, h2]; rfl
        have F1 : Hid (((cl a 4 : Nat) : Int) = (x : Int)) := Lib.hid (by rw [cl_keep h2, HX.out])
        have FN : Hid ((!(NB a 4).isEmpty) = N) := Lib.hid (by rw [NB_not (k := 3) hs]; exact HN.out)
        have FS : Hid (FlS a 4 O) := Lib.hid ⟨by rw [JN_not (k := 3) hs]; exact HF.out.eq, HF.out.le⟩
        clear hb hs h2
        go_wp2_with fail
        exact ⟨⟨4, _, by decide, rfl, by rw [F1.out], rfl, by rw [FN.out], FS.out, trivial⟩, by simp [intOf]⟩
    · have hcell : (w.alloc (.cells flagRow 9)).cell? ⟨w.heap.size, 4, none⟩ = some (.string ⟨#[78, 79, 80, 84, 82]⟩) := HW.out 4 _ rfl
      have hb := bit_one (a := a) (k := 4) (cl_div (a := a) (k := 4) (P := 16) rfl) a4
      have HCL := Lib.hid (cl_clear (a := a) (k := 4) (P := 16) rfl a4 (by decide))
      obtain ⟨x, hx⟩ : ∃ x, cl a 4 = x := ⟨_, rfl⟩
      have HX := Lib.hid hx
      rw [hx] at hb HCL ⊢
      clear hx
      obtain ⟨N, hN⟩ : ∃ N : Bool, (!(NB a 4).isEmpty) = N := ⟨_, rfl⟩
      have HN := Lib.hid hN
      rw [hN]
      clear hN
      by_cases hs : a / 2 ^ 4 % 2 = 1
      · have ht : (bits .and .i64 ((x : Int) / 16) 1 == 1) = true := by rw [hb, hs]; rfl
        have hc : bits .andNot .i64 (x : Int) 16 = ((cl a 5 : Nat) : Int) := HCL.out
        have HS := Lib.hid hs
        have FN : Hid ((!(NB a 5).isEmpty) = true) := Lib.hid (by rw [NB_set (k := 4) hs]; simp)
        clear hb hs
        by_cases h0 : NB a 4 = []
        · have hO : O = ⟨#[]⟩ := by rw [HF.out.eq]; unfold JN; rw [h0]; rfl
          subst hO
          have FS : Hid (FlS a 5 (⟨#[]⟩ ++ ⟨#[78, 79, 80, 84, 82]⟩)) := Lib.hid ⟨by rw [JN_first (k := 4) HS.out h0]; rfl, by decide⟩
          have hNf : N = false := by rw [← HN.out, h0]; rfl
          subst hNf
          clear h0
          go_wp2_with fail
          exact ⟨⟨5, _, by decide, rfl, by rw [← hc], rfl, by rw [FN.out], FS.out, trivial⟩, by simp [intOf]⟩
        · have hNe := JN_ne HA.out 4 (by decide) h0
          have hO1 : O.toList ≠ [] := by rw [HF.out.eq, Lib.toList_data]; exact hNe
          have FS : Hid (FlS a 5 (O ++ ⟨#[124]⟩ ++ ⟨#[78, 79, 80, 84, 82]⟩)) := Lib.hid (by
            have e : O ++ ⟨#[124]⟩ ++ ⟨#[78, 79, 80, 84, 82]⟩ = (⟨(JN a 5).toArray⟩ : ByteArray) := by
              rw [JN_more (k := 4) HS.out h0, HF.out.eq]
              apply ByteArray.ext
              simp [nm]
            refine ⟨e, ?_⟩
            rw [e]
            have := JN_len a 5
            simp [ByteArray.size]
            omega)
          have hO2 : (O.toList == []) = false := by simpa using hO1
          clear h0 hNe hO1
          go_wp2_with fail
          exact ⟨⟨5, _, by decide, rfl, by rw [← hc], rfl, by rw [FN.out], FS.out, trivial⟩, by simp [intOf]⟩
      · have h2 : a / 2 ^ 4 % 2 = 0 := by omega
        have ht : (bits .and .i64 ((x : Int) / 16) 1 == 1) = false := by rw [hb, h2]; rfl
        have F1 : Hid (((cl a 5 : Nat) : Int) = (x : Int)) := Lib.hid (by rw [cl_keep h2, HX.out])
        have FN : Hid ((!(NB a 5).isEmpty) = N) := Lib.hid (by rw [NB_not (k := 4) hs]; exact HN.out)
        have FS : Hid (FlS a 5 O) := Lib.hid ⟨by rw [JN_not (k := 4) hs]; exact HF.out.eq, HF.out.le⟩
        clear hb hs h2
        go_wp2_with fail
        exact ⟨⟨5, _, by decide, rfl, by rw [F1.out], rfl, by rw [FN.out], FS.out, trivial⟩, by simp [intOf]⟩
    · have hcell : (w.alloc (.cells flagRow 9)).cell? ⟨w.heap.size, 5, none⟩ = some (.string ⟨#[87, 82, 65, 80, 80, 69, 82]⟩) := HW.out 5 _ rfl
      have hb := bit_one (a := a) (k := 5) (cl_div (a := a) (k := 5) (P := 32) rfl) a4
      have HCL := Lib.hid (cl_clear (a := a) (k := 5) (P := 32) rfl a4 (by decide))
      obtain ⟨x, hx⟩ : ∃ x, cl a 5 = x := ⟨_, rfl⟩
      have HX := Lib.hid hx
      rw [hx] at hb HCL ⊢
      clear hx
      obtain ⟨N, hN⟩ : ∃ N : Bool, (!(NB a 5).isEmpty) = N := ⟨_, rfl⟩
      have HN := Lib.hid hN
      rw [hN]
      clear hN
      by_cases hs : a / 2 ^ 5 % 2 = 1
      · have ht : (bits .and .i64 ((x : Int) / 32) 1 == 1) = true := by rw [hb, hs]; rfl
        have hc : bits .andNot .i64 (x : Int) 32 = ((cl a 6 : Nat) : Int) := HCL.out
        have HS := Lib.hid hs
        have FN : Hid ((!(NB a 6).isEmpty) = true) := Lib.hid (by rw [NB_set (k := 5) hs]; simp)
        clear hb hs
        by_cases h0 : NB a 5 = []
        · have hO : O = ⟨#[]⟩ := by rw [HF.out.eq]; unfold JN; rw [h0]; rfl
          subst hO
          have FS : Hid (FlS a 6 (⟨#[]⟩ ++ ⟨#[87, 82, 65, 80, 80, 69, 82]⟩)) := Lib.hid ⟨by rw [JN_first (k := 5) HS.out h0]; rfl, by decide⟩
          have hNf : N = false := by rw [← HN.out, h0]; rfl
          subst hNf
          clear h0
          go_wp2_with fail
          exact ⟨⟨6, _, by decide, rfl, by rw [← hc], rfl, by rw [FN.out], FS.out, trivial⟩, by simp [intOf]⟩
        · have hNe := JN_ne HA.out 5 (by decide) h0
          have hO1 : O.toList ≠ [] := by rw [HF.out.eq, Lib.toList_data]; exact hNe
          have FS : Hid (FlS a 6 (O ++ ⟨#[124]⟩ ++ ⟨#[87, 82, 65, 80, 80, 69, 82]⟩)) := Lib.hid (by
            have e : O ++ ⟨#[124]⟩ ++ ⟨#[87, 82, 65, 80, 80, 69, 82]⟩ = (⟨(JN a 6).toArray⟩ : ByteArray) := by
              rw [JN_more (k := 5) HS.out h0, HF.out.eq]
              apply ByteArray.ext
              simp [nm]
            refine ⟨e, ?_⟩
            rw [e]
            have := JN_len a 6
            simp [ByteArray.size]
            omega)
          have hO2 : (O.toList == []) = false := by simpa using hO1
          clear h0 hNe hO1
          go_wp2_with fail
          exact ⟨⟨6, _, by decide, rfl, by rw [← hc], rfl, by rw [FN.out], FS.out, trivial⟩, by simp [intOf]⟩
      · have h2 : a / 2 ^ 5 % 2 = 0 := by omega
        have ht : (bits .and .i64 ((x : Int) / 32) 1 == 1) = false := by rw [hb, h2]; rfl
        have F1 : Hid (((cl a 6 : Nat) : Int) = (x : Int)) := Lib.hid (by rw [cl_keep h2, HX.out])
        have FN : Hid ((!(NB a 6).isEmpty) = N) := Lib.hid (by rw [NB_not (k := 5) hs]; exact HN.out)
        have FS : Hid (FlS a 6 O) := Lib.hid ⟨by rw [JN_not (k := 5) hs]; exact HF.out.eq, HF.out.le⟩
        clear hb hs h2
        go_wp2_with fail
        exact ⟨⟨6, _, by decide, rfl, by rw [F1.out], rfl, by rw [FN.out], FS.out, trivial⟩, by simp [intOf]⟩
    · have hcell : (w.alloc (.cells flagRow 9)).cell? ⟨w.heap.size, 6, none⟩ = some (.string ⟨#[78, 69, 69, 68, 67, 84, 88, 84]⟩) := HW.out 6 _ rfl
      have hb := bit_one (a := a) (k := 6) (cl_div (a := a) (k := 6) (P := 64) rfl) a4
      have HCL := Lib.hid (cl_clear (a := a) (k := 6) (P := 64) rfl a4 (by decide))
      obtain ⟨x, hx⟩ : ∃ x, cl a 6 = x := ⟨_, rfl⟩
      have HX := Lib.hid hx
      rw [hx] at hb HCL ⊢
      clear hx
      obtain ⟨N, hN⟩ : ∃ N : Bool, (!(NB a 6).isEmpty) = N := ⟨_, rfl⟩
      have HN := Lib.hid hN
      rw [hN]
      clear hN
      by_cases hs : a / 2 ^ 6 % 2 = 1
      · have ht : (bits .and .i64 ((x : Int) / 64) 1 == 1) = true := by rw [hb, hs]; rfl
        have hc : bits .andNot .i64 (x : Int) 64 = ((cl a 7 : Nat) : Int) := HCL.out
        have HS := Lib.hid hs
        have FN : Hid ((!(NB a 7).isEmpty) = true) := Lib.hid (by rw [NB_set (k := 6) hs]; simp)
        clear hb hs
        by_cases h0 : NB a 6 = []
        · have hO : O = ⟨#[]⟩ := by rw [HF.out.eq]; unfold JN; rw [h0]; rfl
          subst hO
          have FS : Hid (FlS a 7 (⟨#[]⟩ ++ ⟨#[78, 69, 69, 68, 67, 84, 88, 84]⟩)) := Lib.hid ⟨by rw [JN_first (k := 6) HS.out h0]; rfl, by decide⟩
          have hNf : N = false := by rw [← HN.out, h0]; rfl
          subst hNf
          clear h0
          go_wp2_with fail
          exact ⟨⟨7, _, by decide, rfl, by rw [← hc], rfl, by rw [FN.out], FS.out, trivial⟩, by simp [intOf]⟩
        · have hNe := JN_ne HA.out 6 (by decide) h0
          have hO1 : O.toList ≠ [] := by rw [HF.out.eq, Lib.toList_data]; exact hNe
          have FS : Hid (FlS a 7 (O ++ ⟨#[124]⟩ ++ ⟨#[78, 69, 69, 68, 67, 84, 88, 84]⟩)) := Lib.hid (by
            have e : O ++ ⟨#[124]⟩ ++ ⟨#[78, 69, 69, 68, 67, 84, 88, 84]⟩ = (⟨(JN a 7).toArray⟩ : ByteArray) := by
              rw [JN_more (k := 6) HS.out h0, HF.out.eq]
              apply ByteArray.ext
              simp [nm]
            refine ⟨e, ?_⟩
            rw [e]
            have := JN_len a 7
            simp [ByteArray.size]
            omega)
          have hO2 : (O.toList == []) = false := by simpa using hO1
          clear h0 hNe hO1
          go_wp2_with fail
          exact ⟨⟨7, _, by decide, rfl, by rw [← hc], rfl, by rw [FN.out], FS.out, trivial⟩, by simp [intOf]⟩
      · have h2 : a / 2 ^ 6 % 2 = 0 := by omega
        have ht : (bits .and .i64 ((x : Int) / 64) 1 == 1) = false := by rw [hb, h2]; rfl
        have F1 : Hid (((cl a 7 : Nat) : Int) = (x : Int)) := Lib.hid (by rw [cl_keep h2, HX.out])
        have FN : Hid ((!(NB a 7).isEmpty) = N) := Lib.hid (by rw [NB_not (k := 6) hs]; exact HN.out)
        have FS : Hid (FlS a 7 O) := Lib.hid ⟨by rw [JN_not (k := 6) hs]; exact HF.out.eq, HF.out.le⟩
        clear hb hs h2
        go_wp2_with fail
        exact ⟨⟨7, _, by decide, rfl, by rw [F1.out], rfl, by rw [FN.out], FS.out, trivial⟩, by simp [intOf]⟩
    · have hcell : (w.alloc (.cells flagRow 9)).cell? ⟨w.heap.size, 7, none⟩ = some (.string ⟨#[]⟩) := HW.out 7 _ rfl
      have hb := bit_one (a := a) (k := 7) (cl_div (a := a) (k := 7) (P := 128) rfl) a4
      have HCL := Lib.hid (cl_clear (a := a) (k := 7) (P := 128) rfl a4 (by decide))
      obtain ⟨x, hx⟩ : ∃ x, cl a 7 = x := ⟨_, rfl⟩
      have HX := Lib.hid hx
      rw [hx] at hb HCL ⊢
      clear hx
      obtain ⟨N, hN⟩ : ∃ N : Bool, (!(NB a 7).isEmpty) = N := ⟨_, rfl⟩
      have HN := Lib.hid hN
      rw [hN]
      clear hN
      by_cases hs : a / 2 ^ 7 % 2 = 1
      · exact absurd HA.out.2 (by simp at hs; omega)
      · have h2 : a / 2 ^ 7 % 2 = 0 := by omega
        have ht : (bits .and .i64 ((x : Int) / 128) 1 == 1) = false := by rw [hb, h2]; rfl
        have F1 : Hid (((cl a 8 : Nat) : Int) = (x : Int)) := Lib.hid (by rw [cl_keep h2, HX.out])
        have FN : Hid ((!(NB a 8).isEmpty) = N) := Lib.hid (by rw [NB_not (k := 7) hs]; exact HN.out)
        have FS : Hid (FlS a 8 O) := Lib.hid ⟨by rw [JN_not (k := 7) hs]; exact HF.out.eq, HF.out.le⟩
        clear hb hs h2
        go_wp2_with fail
        exact ⟨⟨8, _, by decide, rfl, by rw [F1.out], rfl, by rw [FN.out], FS.out, trivial⟩, by simp [intOf]⟩
    · have hcell : (w.alloc (.cells flagRow 9)).cell? ⟨w.heap.size, 8, none⟩ = some (.string ⟨#[84, 76, 83, 66, 83, 83]⟩) := HW.out 8 _ rfl
      have hb := bit_one (a := a) (k := 8) (cl_div (a := a) (k := 8) (P := 256) rfl) a4
      have HCL := Lib.hid (cl_clear (a := a) (k := 8) (P := 256) rfl a4 (by decide))
      obtain ⟨x, hx⟩ : ∃ x, cl a 8 = x := ⟨_, rfl⟩
      have HX := Lib.hid hx
      rw [hx] at hb HCL ⊢
      clear hx
      obtain ⟨N, hN⟩ : ∃ N : Bool, (!(NB a 8).isEmpty) = N := ⟨_, rfl⟩
      have HN := Lib.hid hN
      rw [hN]
      clear hN
      by_cases hs : a / 2 ^ 8 % 2 = 1
      · have ht : (bits .and .i64 ((x : Int) / 256) 1 == 1) = true := by rw [hb, hs]; rfl
        have hc : bits .andNot .i64 (x : Int) 256 = ((cl a 9 : Nat) : Int) := HCL.out
        have HS := Lib.hid hs
        have FN : Hid ((!(NB a 9).isEmpty) = true) := Lib.hid (by rw [NB_set (k := 8) hs]; simp)
        clear hb hs
        by_cases h0 : NB a 8 = []
        · have hO : O = ⟨#[]⟩ := by rw [HF.out.eq]; unfold JN; rw [h0]; rfl
          subst hO
          have FS : Hid (FlS a 9 (⟨#[]⟩ ++ ⟨#[84, 76, 83, 66, 83, 83]⟩)) := Lib.hid ⟨by rw [JN_first (k := 8) HS.out h0]; rfl, by decide⟩
          have hNf : N = false := by rw [← HN.out, h0]; rfl
          subst hNf
          clear h0
          go_wp2_with fail
          exact ⟨⟨9, _, by decide, rfl, by rw [← hc], rfl, by rw [FN.out], FS.out, trivial⟩, by simp [intOf]⟩
        · have hNe := JN_ne HA.out 8 (by decide) h0
          have hO1 : O.toList ≠ [] := by rw [HF.out.eq, Lib.toList_data]; exact hNe
          have FS : Hid (FlS a 9 (O ++ ⟨#[124]⟩ ++ ⟨#[84, 76, 83, 66, 83, 83]⟩)) := Lib.hid (by
            have e : O ++ ⟨#[124]⟩ ++ ⟨#[84, 76, 83, 66, 83, 83]⟩ = (⟨(JN a 9).toArray⟩ : ByteArray) := by
              rw [JN_more (k := 8) HS.out h0, HF.out.eq]
              apply ByteArray.ext
              simp [nm]
            refine ⟨e, ?_⟩
            rw [e]
            have := JN_len a 9
            simp [ByteArray.size]
            omega)
          have hO2 : (O.toList == []) = false := by simpa using hO1
          clear h0 hNe hO1
          go_wp2_with fail
          exact ⟨⟨9, _, by decide, rfl, by rw [← hc], rfl, by rw [FN.out], FS.out, trivial⟩, by simp [intOf]⟩
      · have h2 : a / 2 ^ 8 % 2 = 0 := by omega
        have ht : (bits .and .i64 ((x : Int) / 256) 1 == 1) = false := by rw [hb, h2]; rfl
        have F1 : Hid (((cl a 9 : Nat) : Int) = (x : Int)) := Lib.hid (by rw [cl_keep h2, HX.out])
        have FN : Hid ((!(NB a 9).isEmpty) = N) := Lib.hid (by rw [NB_not (k := 8) hs]; exact HN.out)
        have FS : Hid (FlS a 9 O) := Lib.hid ⟨by rw [JN_not (k := 8) hs]; exact HF.out.eq, HF.out.le⟩
        clear hb hs h2
        go_wp2_with fail
        exact ⟨⟨9, _, by decide, rfl, by rw [F1.out], rfl, by rw [FN.out], FS.out, trivial⟩, by simp [intOf]⟩
    · have hcell : (w.alloc (.cells flagRow 9)).cell? ⟨w.heap.size, 9, none⟩ = some (.string ⟨#[78, 79, 70, 82, 65, 77, 69]⟩) := HW.out 9 _ rfl
      have hb := bit_one (a := a) (k := 9) (cl_div (a := a) (k := 9) (P := 512) rfl) a4
      have HCL := Lib.hid (cl_clear (a := a) (k := 9) (P := 512) rfl a4 (by decide))
      obtain ⟨x, hx⟩ : ∃ x, cl a 9 = x := ⟨_, rfl⟩
      have HX := Lib.hid hx
      rw [hx] at hb HCL ⊢
      clear hx
      obtain ⟨N, hN⟩ : ∃ N : Bool, (!(NB a 9).isEmpty) = N := ⟨_, rfl⟩
      have HN := Lib.hid hN
      rw [hN]
      clear hN
      by_cases hs : a / 2 ^ 9 % 2 = 1
      · have ht : (bits .and .i64 ((x : Int) / 512) 1 == 1) = true := by rw [hb, hs]; rfl
        have hc : bits .andNot .i64 (x : Int) 512 = ((cl a 10 : Nat) : Int) := HCL.out
        have HS := Lib.hid hs
        have FN : Hid ((!(NB a 10).isEmpty) = true) := Lib.hid (by rw [NB_set (k := 9) hs]; simp)
        clear hb hs
        by_cases h0 : NB a 9 = []
        · have hO : O = ⟨#[]⟩ := by rw [HF.out.eq]; unfold JN; rw [h0]; rfl
          subst hO
          have FS : Hid (FlS a 10 (⟨#[]⟩ ++ ⟨#[78, 79, 70, 82, 65, 77, 69]⟩)) := Lib.hid ⟨by rw [JN_first (k := 9) HS.out h0]; rfl, by decide⟩
          have hNf : N = false := by rw [← HN.out, h0]; rfl
          subst hNf
          clear h0
          go_wp2_with fail
          exact ⟨⟨10, _, by decide, rfl, by rw [← hc], rfl, by rw [FN.out], FS.out, trivial⟩, by simp [intOf]⟩
        · have hNe := JN_ne HA.out 9 (by decide) h0
          have hO1 : O.toList ≠ [] := by rw [HF.out.eq, Lib.toList_data]; exact hNe
          have FS : Hid (FlS a 10 (O ++ ⟨#[124]⟩ ++ ⟨#[78, 79, 70, 82, 65, 77, 69]⟩)) := Lib.hid (by
            have e : O ++ ⟨#[124]⟩ ++ ⟨#[78, 79, 70, 82, 65, 77, 69]⟩ = (⟨(JN a 10).toArray⟩ : ByteArray) := by
              rw [JN_more (k := 9) HS.out h0, HF.out.eq]
              apply ByteArray.ext
              simp [nm]
            refine ⟨e, ?_⟩
            rw [e]
            have := JN_len a 10
            simp [ByteArray.size]
            omega)
          have hO2 : (O.toList == []) = false := by simpa using hO1
          clear h0 hNe hO1
          go_wp2_with fail
          exact ⟨⟨10, _, by decide, rfl, by rw [← hc], rfl, by rw [FN.out], FS.out, trivial⟩, by simp [intOf]⟩
      · have h2 : a / 2 ^ 9 % 2 = 0 := by omega
        have ht : (bits .and .i64 ((x : Int) / 512) 1 == 1) = false := by rw [hb, h2]; rfl
        have F1 : Hid (((cl a 10 : Nat) : Int) = (x : Int)) := Lib.hid (by rw [cl_keep h2, HX.out])
        have FN : Hid ((!(NB a 10).isEmpty) = N) := Lib.hid (by rw [NB_not (k := 9) hs]; exact HN.out)
        have FS : Hid (FlS a 10 O) := Lib.hid ⟨by rw [JN_not (k := 9) hs]; exact HF.out.eq, HF.out.le⟩
        clear hb hs h2
        go_wp2_with fail
        exact ⟨⟨10, _, by decide, rfl, by rw [F1.out], rfl, by rw [FN.out], FS.out, trivial⟩, by simp [intOf]⟩
    · have hcell : (w.alloc (.cells flagRow 9)).cell? ⟨w.heap.size, 10, none⟩ = some (.string ⟨#[82, 69, 70, 76, 69, 67, 84, 77, 69, 84, 72, 79, 68]⟩) := HW.out 10 _ rfl
      have hb := bit_one (a := a) (k := 10) (cl_div (a := a) (k := 10) (P := 1024) rfl) a4
      have HCL := Lib.hid (cl_clear (a := a) (k := 10) (P := 1024) rfl a4 (by decide))
      obtain ⟨x, hx⟩ : ∃ x, cl a 10 = x := ⟨_, rfl⟩
      have HX := Lib.hid hx
      rw [hx] at hb HCL ⊢
      clear hx
      obtain ⟨N, hN⟩ : ∃ N : Bool, (!(NB a 10).isEmpty) = N := ⟨_, rfl⟩
      have HN := Lib.hid hN
      rw [hN]
      clear hN
      by_cases hs : a / 2 ^ 10 % 2 = 1
      · have ht : (bits .and .i64 ((x : Int) / 1024) 1 == 1) = true := by rw [hb, hs]; rfl
        have hc : bits .andNot .i64 (x : Int) 1024 = ((cl a 11 : Nat) : Int) := HCL.out
        have HS := Lib.hid hs
        have FN : Hid ((!(NB a 11).isEmpty) = true) := Lib.hid (by rw [NB_set (k := 10) hs]; simp)
        clear hb hs
        by_cases h0 : NB a 10 = []
        · have hO : O = ⟨#[]⟩ := by rw [HF.out.eq]; unfold JN; rw [h0]; rfl
          subst hO
          have FS : Hid (FlS a 11 (⟨#[]⟩ ++ ⟨#[82, 69, 70, 76, 69, 67, 84, 77, 69, 84, 72, 79, 68]⟩)) := Lib.hid ⟨by rw [JN_first (k := 10) HS.out h0]; rfl, by decide⟩
          have hNf : N = false := by rw [← HN.out, h0]; rfl
          subst hNf
          clear h0
          go_wp2_with fail
          exact ⟨⟨11, _, by decide, rfl, by rw [← hc], rfl, by rw [FN.out], FS.out, trivial⟩, by simp [intOf]⟩
        · have hNe := JN_ne HA.out 10 (by decide) h0
          have hO1 : O.toList ≠ [] := by rw [HF.out.eq, Lib.toList_data]; exact hNe
          have FS : Hid (FlS a 11 (O ++ ⟨#[124]⟩ ++ ⟨#[82, 69, 70, 76, 69, 67, 84, 77, 69, 84, 72, 79, 68]⟩)) := Lib.hid (by
            have e : O ++ ⟨#[124]⟩ ++ ⟨#[82, 69, 70, 76, 69, 67, 84, 77, 69, 84, 72, 79, 68]⟩ = (⟨(JN a 11).toArray⟩ : ByteArray) := by
              rw [JN_more (k := 10) HS.out h0, HF.out.eq]
              apply ByteArray.ext
              simp [nm]
            refine ⟨e, ?_⟩
            rw [e]
            have := JN_len a 11
            simp [ByteArray.size]
            omega)
          have hO2 : (O.toList == []) = false := by simpa using hO1
          clear h0 hNe hO1
          go_wp2_with fail
          exact ⟨⟨11, _, by decide, rfl, by rw [← hc], rfl, by rw [FN.out], FS.out, trivial⟩, by simp [intOf]⟩
      · have h2 : a / 2 ^ 10 % 2 = 0 := by omega
        have ht : (bits .and .i64 ((x : Int) / 1024) 1 == 1) = false := by rw [hb, h2]; rfl
        have F1 : Hid (((cl a 11 : Nat) : Int) = (x : Int)) := Lib.hid (by rw [cl_keep h2, HX.out])
        have FN : Hid ((!(NB a 11).isEmpty) = N) := Lib.hid (by rw [NB_not (k := 10) hs]; exact HN.out)
        have FS : Hid (FlS a 11 O) := Lib.hid ⟨by rw [JN_not (k := 10) hs]; exact HF.out.eq, HF.out.le⟩
        clear hb hs h2
        go_wp2_with fail
        exact ⟨⟨11, _, by decide, rfl, by rw [F1.out], rfl, by rw [FN.out], FS.out, trivial⟩, by simp [intOf]⟩
    · have hcell : (w.alloc (.cells flagRow 9)).cell? ⟨w.heap.size, 11, none⟩ = some (.string ⟨#[84, 79, 80, 70, 82, 65, 77, 69]⟩) := HW.out 11 _ rfl
      have hb := bit_one (a := a) (k := 11) (cl_div (a := a) (k := 11) (P := 2048) rfl) a4
      have HCL := Lib.hid (cl_clear (a := a) (k := 11) (P := 2048) rfl a4 (by decide))
      obtain ⟨x, hx⟩ : ∃ x, cl a 11 = x := ⟨_, rfl⟩
      have HX := Lib.hid hx
      rw [hx] at hb HCL ⊢
      clear hx
      obtain ⟨N, hN⟩ : ∃ N : Bool, (!(NB a 11).isEmpty) = N := ⟨_, rfl⟩
      have HN := Lib.hid hN
      rw [hN]
      clear hN
      by_cases hs : a / 2 ^ 11 % 2 = 1
      · have ht : (bits .and .i64 ((x : Int) / 2048) 1 == 1) = true := by rw [hb, hs]; rfl
        have hc : bits .andNot .i64 (x : Int) 2048 = ((cl a 12 : Nat) : Int) := HCL.out
        have HS := Lib.hid hs
        have FN : Hid ((!(NB a 12).isEmpty) = true) := Lib.hid (by rw [NB_set (k := 11) hs]; simp)
        clear hb hs
        by_cases h0 : NB a 11 = []
        · have hO : O = ⟨#[]⟩ := by rw [HF.out.eq]; unfold JN; rw [h0]; rfl
          subst hO
          have FS : Hid (FlS a 12 (⟨#[]⟩ ++ ⟨#[84, 79, 80, 70, 82, 65, 77, 69]⟩)) := Lib.hid ⟨by rw [JN_first (k := 11) HS.out h0]; rfl, by decide⟩
          have hNf : N = false := by rw [← HN.out, h0]; rfl
          subst hNf
          clear h0
          go_wp2_with fail
          exact ⟨⟨12, _, by decide, rfl, by rw [← hc], rfl, by rw [FN.out], FS.out, trivial⟩, by simp [intOf]⟩
        · have hNe := JN_ne HA.out 11 (by decide) h0
          have hO1 : O.toList ≠ [] := by rw [HF.out.eq, Lib.toList_data]; exact hNe
          have FS : Hid (FlS a 12 (O ++ ⟨#[124]⟩ ++ ⟨#[84, 79, 80, 70, 82, 65, 77, 69]⟩)) := Lib.hid (by
            have e : O ++ ⟨#[124]⟩ ++ ⟨#[84, 79, 80, 70, 82, 65, 77, 69]⟩ = (⟨(JN a 12).toArray⟩ : ByteArray) := by
              rw [JN_more (k := 11) HS.out h0, HF.out.eq]
              apply ByteArray.ext
              simp [nm]
            refine ⟨e, ?_⟩
            rw [e]
            have := JN_len a 12
            simp [ByteArray.size]
            omega)
          have hO2 : (O.toList == []) = false := by simpa using hO1
          clear h0 hNe hO1
          go_wp2_with fail
          exact ⟨⟨12, _, by decide, rfl, by rw [← hc], rfl, by rw [FN.out], FS.out, trivial⟩, by simp [intOf]⟩
      · have h2 : a / 2 ^ 11 % 2 = 0 := by omega
        have ht : (bits .and .i64 ((x : Int) / 2048) 1 == 1) = false := by rw [hb, h2]; rfl
        have F1 : Hid (((cl a 12 : Nat) : Int) = (x : Int)) := Lib.hid (by rw [cl_keep h2, HX.out])
        have FN : Hid ((!(NB a 12).isEmpty) = N) := Lib.hid (by rw [NB_not (k := 11) hs]; exact HN.out)
        have FS : Hid (FlS a 12 O) := Lib.hid ⟨by rw [JN_not (k := 11) hs]; exact HF.out.eq, HF.out.le⟩
        clear hb hs h2
        go_wp2_with fail
        exact ⟨⟨12, _, by decide, rfl, by rw [F1.out], rfl, by rw [FN.out], FS.out, trivial⟩, by simp [intOf]⟩
    · have hz : cl a 12 = 0 := cl_end a4
      rw [hz]
      clear hz
      have HB := Lib.hid bel0
      clear bel0
      obtain ⟨N, hN⟩ : ∃ N : Bool, (!(NB a 12).isEmpty) = N := ⟨_, rfl⟩
      have HN := Lib.hid hN
      rw [hN]
      clear hN
      by_cases h0 : NB a 12 = []
      · have hO : O = ⟨#[]⟩ := by rw [HF.out.eq]; unfold JN; rw [h0]; rfl
        subst hO
        have HAN : Hid (AN a = [48]) := Lib.hid (if_pos h0)
        clear h0
        go_wp2_with fail
        refine (HDEC.out _).mono ?_
        rintro e w2 ⟨rfl, rfl⟩
        go_wp2
        go_ret2
        refine ⟨?_, HB.out⟩
        rw [HAN.out, HN.out]
        rfl
      · have HAN : Hid (AN a = JN a 12) := Lib.hid (if_neg h0)
        have hNe := JN_ne HA.out 12 (by decide) h0
        have hO1 : O.toList ≠ [] := by rw [HF.out.eq, Lib.toList_data]; exact hNe
        have hO2 : (O.toList == []) = false := by simpa using hO1
        clear h0 hNe hO1
        go_wp2
        go_ret2
        refine ⟨?_, HB.out⟩
        rw [HAN.out, HN.out, ← HF.out.eq]
        rfl

end Go.Proofs.YtjmmfhgdjndabaaRRDoor
