/- Walk of the statements' text of terms. Conditions: one to a hundred numbers. -/
import Derived.Test.YtjmmfhgdjndabaaRRDoorTagI
namespace Go.Proofs.YtjmmfhgdjndabaaRRDoor
open Go.RowKit Go.Maps

/-- The first j terms of an option. -/
def optK (n k j : Nat) : List Tm := (List.range j).map fun j => (decide (n / 2 ^ (5 + j) % 2 = 1), (n / 4 + 5 * j + k) % 6)
theorem optK_step (n k j : Nat) : optK n k (j + 1) = optK n k j ++ [(decide (n / 2 ^ (5 + j) % 2 = 1), (n / 4 + 5 * j + k) % 6)] := by
  unfold optK
  rw [List.range_succ, List.map_append]
  rfl
theorem opt_optK (n k : Nat) : opt n k = optK n k (1 + n % 3) := rfl
theorem con_step (l : List Nat) (k : Nat) : con l (k + 1) = con l k ++ [opt (l.getD k 0) k] := by
  unfold con
  rw [List.range_succ, List.map_append]
  rfl
theorem join_snoc (xs : List (List UInt8)) (sep x : List UInt8) (h : xs ≠ []) : Lib.join (xs ++ [x]) sep = Lib.join xs sep ++ sep ++ x := by
  cases xs with
  | nil => exact absurd rfl h
  | cons y r =>
    rw [List.cons_append, Lib.join_cons, Lib.join_cons]
    unfold Lib.joinTail
    simp
theorem join_one (sep x : List UInt8) : Lib.join [x] sep = x := by
  rw [Lib.join_cons]
  simp [Lib.joinTail]

theorem bit_dec {a k : Nat} (ha : a < 256) : (bits .and .u8 ((a : Int) / 2 ^ k) 1 == 1) = decide (a / 2 ^ k % 2 = 1) := by
  by_cases h : a / 2 ^ k % 2 = 1
  · rw [bit_set ha h, decide_eq_true h]
  · rw [bit_not ha h, decide_eq_false h]
theorem ot_step (x k j : Nat) (t : Tm) : (⟨(ot (optK x k j ++ [t])).toArray⟩ : ByteArray) = ((if j = 0 then ⟨(ot (optK x k j)).toArray⟩ else ⟨(ot (optK x k j)).toArray⟩ ++ ⟨#[44]⟩) ++ (if t.1 then ⟨#[33]⟩ else ⟨#[]⟩)) ++ ⟨(tg t.2).toArray⟩ := by
  obtain ⟨b, y⟩ := t
  have e : ot (optK x k j ++ [(b, y)]) = (if j = 0 then ot (optK x k j) else ot (optK x k j) ++ [44]) ++ tt (b, y) := by
    unfold ot
    rw [List.map_append, List.map_cons, List.map_nil]
    by_cases h : j = 0
    · subst h
      have e0 : (optK x k 0).map tt = [] := rfl
      rw [if_pos rfl, e0, List.nil_append, join_one, Lib.join_nil]
      rfl
    · rw [if_neg h, join_snoc _ _ _ (by
        intro h2
        have := congrArg List.length h2
        simp [optK] at this
        exact h this)]
  rw [e]
  apply ByteArray.ext
  apply Array.ext'
  unfold tt
  by_cases h : j = 0 <;> cases b <;> simp [h]

theorem ct_step (l : List Nat) (k : Nat) (o : List Tm) : (⟨(ct (con l k ++ [o])).toArray⟩ : ByteArray) = (if k = 0 then ⟨(ct (con l k)).toArray⟩ else ⟨(ct (con l k)).toArray⟩ ++ ⟨#[32]⟩) ++ ⟨(ot o).toArray⟩ := by
  have e : ct (con l k ++ [o]) = (if k = 0 then ct (con l k) else ct (con l k) ++ [32]) ++ ot o := by
    unfold ct
    rw [List.map_append, List.map_cons, List.map_nil]
    by_cases h : k = 0
    · subst h
      have e0 : (con l 0).map ot = [] := rfl
      rw [if_pos rfl, e0, List.nil_append, join_one, Lib.join_nil]
      rfl
    · rw [if_neg h, join_snoc _ _ _ (by
        intro h2
        have := congrArg List.length h2
        simp [con] at this
        exact h this)]
  rw [e]
  apply ByteArray.ext
  apply Array.ext'
  by_cases h : k = 0 <;> simp [h]

set_option maxHeartbeats 1000000 in
set_option maxRecDepth 100000 in
theorem termsOf_any (b off n cap : Nat) (l : List Nat) (tags : Nat) (htg : tags < 256) (w : World) (hlt : b < w.heap.size) (hn : l.length = n) (h0 : 0 < n) (h100 : n ≤ 100) (hnc : n ≤ cap)
    (hcell : ∀ (k z : Nat), l[k]? = some z → w.cell? ⟨b, off + k, none⟩ = some (.int .u8 (z : Int))) (h256 : ∀ z ∈ l, z < 256) (m : Nat) (hm : min n 6 = m) :
    Calls Tryd.prog 10 #[.slice (some ⟨b, off, none⟩) n cap, .int .u8 (tags : Int)] w fun e w' => e = .returned (.tuple #[.string ⟨(ct (con l m)).toArray⟩, .bool (cv tags (con l m))]) ∧ Below w.heap.size w w' := by
  have HN := Lib.hid hn
  have HC := Lib.hid hcell
  have H2 := Lib.hid h256
  have hm6 : m ≤ 6 := by omega
  have hmn : m ≤ n := by omega
  have hmm : (min (n : Int) 6) = (m : Int) := by omega
  have HROW : Hid (∀ j, j < 6 → (w.alloc (.cells tagRow 9)).cell? ⟨w.heap.size, j, none⟩ = some (.string ⟨(tg j).toArray⟩)) := Lib.hid (fun j hj => tagRow_cell w hj)
  clear hn hcell h256 hm
  go_enter Tryd.func10, Tryd.ntmps10
  go_wp2_with fail
  go_loopw [7, 8, 23] (fun s v i wr => ∃ (k : Nat) (S : ByteArray), k ≤ m ∧ i = .int .i64 k ∧ s = .string S ∧ v = .bool (cv tags (con l k)) ∧ S.size ≤ 200 ∧ Hid (S = ⟨(ct (con l k)).toArray⟩) ∧ Hid (wr = w.alloc (.cells tagRow 9))) (fun _ _ i _ => m - (intOf i).toNat)
  case atStart => exact ⟨0, _, Nat.zero_le _, rfl, rfl, rfl, by decide, Lib.hid rfl, Lib.hid rfl⟩
  case round =>
    obtain ⟨k, S, hk, rfl, rfl, rfl, hS, HS, HW⟩ := hrel
    by_cases hkm : k < m
    · obtain ⟨x, hx⟩ : ∃ x, l[k]? = some x := ⟨l[k]'(by have := HN.out; omega), List.getElem?_eq_getElem _⟩
      have hx256 := H2.out x (List.mem_of_getElem? hx)
      have e0 : wr.cell? ⟨b, off + k, none⟩ = some (.int .u8 (x : Int)) := by
        rw [HW.out, World.cell?_alloc_lt w _ ⟨b, off + k, none⟩ hlt]
        exact HC.out k x hx
      have HX : Hid (l.getD k 0 = x) := Lib.hid (by rw [List.getD_eq_getElem?_getD, hx]; rfl)
      have hq : (1 + (x : Int) % 3) = ((1 + x % 3 : Nat) : Int) := by omega
      obtain ⟨q, hqq⟩ : ∃ q, 1 + x % 3 = q := ⟨_, rfl⟩
      rw [hqq] at hq
      have hq3 : q ≤ 3 ∧ 1 ≤ q := by omega
      have HQ := Lib.hid hqq
      clear hx hqq
      go_wp2_with fail
      go_loopw [11, 12, 32] (fun s v i wv => ∃ (j : Nat) (T : ByteArray), j ≤ q ∧ i = .int .i64 j ∧ s = .string T ∧ v = .bool (ov tags (optK x k j)) ∧ T.size ≤ 24 ∧ Hid (T = ⟨(ot (optK x k j)).toArray⟩) ∧ Hid (wv = w.alloc (.cells tagRow 9))) (fun _ _ i _ => q - (intOf i).toNat)
      case atStart => exact ⟨0, _, Nat.zero_le _, rfl, rfl, rfl, by decide, Lib.hid rfl, HW⟩
      case round =>
        obtain ⟨j, T, hj, rfl, rfl, rfl, hT, HT, HV⟩ := hrel
        by_cases hjq : j < q
        · obtain ⟨y, hy⟩ : ∃ y, (x / 4 + 5 * j + k) % 6 = y := ⟨_, rfl⟩
          have hy6 : y < 6 := by omega
          have e1 : wr.cell? ⟨w.heap.size, y, none⟩ = some (.string ⟨(tg y).toArray⟩) := by rw [HV.out]; exact HROW.out y hy6
          have hyI : ((x : Int) / 4 + 5 * (j : Int) + (k : Int)) % 6 = (y : Int) := by omega
          obtain ⟨N, hN⟩ : ∃ N : ByteArray, ⟨(tg y).toArray⟩ = N := ⟨_, rfl⟩
          rw [hN] at e1
          have hNs : N.size ≤ 6 := by rw [← hN]; have := tg_len y; simp [ByteArray.size]; omega
          have hbt := bit_dec (a := tags) (k := y) htg
          obtain ⟨Bt, hBt⟩ : ∃ Bt, decide (tags / 2 ^ y % 2 = 1) = Bt := ⟨_, rfl⟩
          rw [hBt] at hbt
          have hng := bit_dec (a := x) (k := 5 + j) hx256
          obtain ⟨Ng, hNg⟩ : ∃ Ng, decide (x / 2 ^ (5 + j) % 2 = 1) = Ng := ⟨_, rfl⟩
          rw [hNg] at hng
          obtain ⟨V, hV⟩ : ∃ V, ov tags (optK x k j) = V := ⟨_, rfl⟩
          have HOV : Hid (ov tags (optK x k (j + 1)) = (V && (Bt != Ng))) := Lib.hid (by
            rw [optK_step, hy, ← hV, ← hBt, ← hNg]
            unfold ov
            rw [List.all_append]
            simp [tv])
          have HOT : Hid ((⟨(ot (optK x k (j + 1))).toArray⟩ : ByteArray) = ((if j = 0 then T else T ++ ⟨#[44]⟩) ++ (if Ng then ⟨#[33]⟩ else ⟨#[]⟩)) ++ N) := Lib.hid (by
            rw [optK_step, hy, hNg, HT.out, ← hN]
            exact ot_step x k j (Ng, y))
          have HLEN : Hid ((ot (optK x k (j + 1))).length ≤ 24) := Lib.hid (ot_len (by unfold optK; simp; omega))
          have HTS : Hid ((⟨(ot (optK x k (j + 1))).toArray⟩ : ByteArray).size ≤ 24) := Lib.hid (by have := HLEN.out; simpa [ByteArray.size] using this)
          rw [hV]
          clear hy hN hBt hNg hV HT HLEN
          have HEND : Hid (∀ T' : ByteArray, T' = ((if j = 0 then T else T ++ ⟨#[44]⟩) ++ (if Ng then ⟨#[33]⟩ else ⟨#[]⟩)) ++ N → T'.size ≤ 24 ∧ Hid (T' = ⟨(ot (optK x k (j + 1))).toArray⟩)) := Lib.hid (fun T' h => by
            rw [← HOT.out] at h
            exact ⟨by rw [h]; exact HTS.out, Lib.hid h⟩)
          clear HOT HTS
          by_cases hj0 : j = 0
          · rw [if_pos hj0] at HEND
            have hjp : ¬ 0 < j := by omega
            clear hj0
            cases Ng <;> cases V
            all_goals go_wp2_with fail
            all_goals refine ⟨⟨j + 1, _, by omega, by go_num, rfl, ?_, (HEND.out _ ?_).1, (HEND.out _ ?_).2, HV⟩, by simp [intOf]; omega⟩
            all_goals first
              | omega
              | (rw [HOV.out]; cases Bt <;> rfl)
              | (apply ByteArray.ext; simp)
          · rw [if_neg hj0] at HEND
            have hjp : 0 < j := by omega
            clear hj0
            cases Ng <;> cases V
            all_goals go_wp2_with fail
            all_goals refine ⟨⟨j + 1, _, by omega, by go_num, rfl, ?_, (HEND.out _ ?_).1, (HEND.out _ ?_).2, HV⟩, by simp [intOf]; omega⟩
            all_goals first
              | omega
              | (rw [HOV.out]; cases Bt <;> rfl)
              | (apply ByteArray.ext; simp)
        · obtain rfl : j = q := by omega
          obtain ⟨V, hV⟩ : ∃ V, ov tags (optK x k j) = V := ⟨_, rfl⟩
          obtain ⟨C, hC⟩ : ∃ C, cv tags (con l k) = C := ⟨_, rfl⟩
          have hopt : con l (k + 1) = con l k ++ [optK x k j] := by rw [con_step, HX.out, opt_optK, HQ.out]
          have HOV : Hid (cv tags (con l (k + 1)) = (C || V)) := Lib.hid (by
            rw [hopt, ← hV, ← hC]
            unfold cv
            rw [List.any_append]
            simp)
          have HEND : Hid (∀ S' : ByteArray, S' = (if k = 0 then S else S ++ ⟨#[32]⟩) ++ T → S'.size ≤ 200 ∧ Hid (S' = ⟨(ct (con l (k + 1))).toArray⟩)) := Lib.hid (fun S' h => by
            have h2 : S' = ⟨(ct (con l (k + 1))).toArray⟩ := by
              rw [h, HS.out, HT.out, hopt]
              exact (ct_step l k (optK x k j)).symm
            refine ⟨?_, Lib.hid h2⟩
            have h3 := ct_len (c := con l (k + 1)) (by unfold con; simp; omega) (fun o ho => by
              unfold con at ho
              obtain ⟨i, -, rfl⟩ := List.mem_map.1 ho
              exact opt_len _ _)
            rw [h2]
            simp [ByteArray.size]
            omega)
          rw [hV, hC]
          clear hV hC hopt HT HS
          by_cases hk0 : k = 0
          · rw [if_pos hk0] at HEND
            have hkp : ¬ 0 < k := by omega
            clear hk0
            cases C
            all_goals go_wp2_with fail
            all_goals refine ⟨⟨k + 1, _, by omega, by go_num, rfl, ?_, (HEND.out _ ?_).1, (HEND.out _ ?_).2, HV⟩, by simp [intOf]; omega⟩
            all_goals first
              | omega
              | (rw [HOV.out]; cases V <;> rfl)
              | (apply ByteArray.ext; simp)
          · rw [if_neg hk0] at HEND
            have hkp : 0 < k := by omega
            clear hk0
            cases C
            all_goals go_wp2_with fail
            all_goals refine ⟨⟨k + 1, _, by omega, by go_num, rfl, ?_, (HEND.out _ ?_).1, (HEND.out _ ?_).2, HV⟩, by simp [intOf]; omega⟩
            all_goals first
              | omega
              | (rw [HOV.out]; cases V <;> rfl)
              | (apply ByteArray.ext; simp)
    · obtain rfl : k = m := by omega
      have F : Hid (Below w.heap.size w wr) := Lib.hid (by rw [HW.out]; exact (Below.refl _ _).alloc (Nat.le_refl _) _)
      go_wp2
      go_ret2
      exact ⟨by rw [HS.out]; rfl, F.out⟩

end Go.Proofs.YtjmmfhgdjndabaaRRDoor
