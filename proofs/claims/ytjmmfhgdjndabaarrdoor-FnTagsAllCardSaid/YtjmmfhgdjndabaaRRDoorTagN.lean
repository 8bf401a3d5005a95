/- Walk of FnTagsAll. Conditions: the library's table lies as it is laid. -/
import Derived.Test.YtjmmfhgdjndabaaRRDoorTagQ
namespace Go.Proofs.YtjmmfhgdjndabaaRRDoor
open Go.RowKit Go.Maps

/-- A slice value of n numbers of a byte each. -/
def InR (w : World) (A : Option Addr) (n c : Nat) (zs : List Nat) : Prop :=
  zs.length = n ∧ (∀ z ∈ zs, z < 256) ∧ n ≤ c ∧ (0 < n → ∃ b o, A = some ⟨b, o, none⟩ ∧ b < w.heap.size ∧ ∀ (k z : Nat), zs[k]? = some z → w.cell? ⟨b, o + k, none⟩ = some (.int .u8 (z : Int)))
theorem InR.below {w w' : World} {A : Option Addr} {n c : Nat} {zs : List Nat} (h : InR w A n c zs) (hb : Below w.heap.size w w') : InR w' A n c zs := by
  obtain ⟨h1, h2, h3, h4⟩ := h
  refine ⟨h1, h2, h3, fun h0 => ?_⟩
  obtain ⟨b, o, e, hlt, hc⟩ := h4 h0
  exact ⟨b, o, e, Nat.lt_of_lt_of_le hlt hb.size, fun k z hz => (hb.cell (p := ⟨b, o + k, none⟩) hlt).trans (hc k z hz)⟩
/-- A slice value of n such slices. -/
def RowsR (w : World) (A : Option Addr) (n : Nat) : Prop :=
  0 < n → ∃ b o, A = some ⟨b, o, none⟩ ∧ b < w.heap.size ∧ ∀ k, k < n → ∃ A' l c zs, w.cell? ⟨b, o + k, none⟩ = some (.slice A' l c) ∧ InR w A' l c zs

set_option maxRecDepth 100000 in
theorem fits3_any (A : Option Addr) (n c : Nat) (w : World) (h : RowsR w A n) :
    Calls Tryd.prog 13 #[.slice A n c] w fun e w' => ∃ B, e = .returned (.bool B) ∧ w = w' := by
  by_cases h1 : (2147483647 : Int) < (n : Int)
  · go_enter Tryd.func13, Tryd.ntmps13
    go_wp2_with fail
    go_ret
    exact ⟨_, rfl, rfl⟩
  · have hn : n ≤ 2147483647 := by omega
    go_enter Tryd.func13, Tryd.ntmps13
    go_wp2_with fail
    go_loopw [10] (fun i wr => ∃ k : Nat, k ≤ n ∧ i = .int .i64 k ∧ Hid (w = wr)) (fun i _ => n - (intOf i).toNat)
    case atStart => exact ⟨0, Nat.zero_le _, rfl, Lib.hid rfl⟩
    case round =>
      obtain ⟨k, hk, rfl, HW⟩ := hrel
      by_cases hlt : k < n
      · obtain ⟨b, o, rfl, -, hc⟩ := h (by omega)
        obtain ⟨A', l, c', zs, e0, -⟩ := hc k hlt
        rw [HW.out] at e0
        by_cases h2 : (2147483647 : Int) < (l : Int)
        · go_wp2_with fail
          go_ret
          exact ⟨_, rfl, HW.out⟩
        · go_wp2_with fail
          exact ⟨⟨k + 1, by omega, by go_num, HW⟩, by simp [intOf]; omega⟩
      · obtain rfl : k = n := by omega
        go_wp2
        go_ret
        exact ⟨_, rfl, HW.out⟩

set_option maxRecDepth 100000 in
theorem fnTagsAll_out (a : Option Addr) (n c : Nat) (t : Int) (w : World) (h : 100 < n ∨ n = 0) (hr : RowsR w a n) :
    Calls Tryd.prog 6 #[.slice a n c, .int .u8 t] w fun e w' => e = .returned (.bool true) ∧ Below w.heap.size w w' := by
  have HF := Lib.hid (fits3_any a n c w hr)
  clear hr
  rcases h with h | rfl
  · have h0 : ((n : Int) == 0) = false := beq_eq_false_iff_ne.2 (by omega)
    have h2 : (100 : Int) < (n : Int) := by omega
    go_enter Tryd.func6, Tryd.ntmps6
    go_wp2_with fail
    refine HF.out.mono ?_
    rintro e w1 ⟨B, rfl, rfl⟩
    cases B
    · go_wp2_with fail
      go_ret
      exact ⟨rfl, Below.refl _ _⟩
    · go_wp2_with fail
      go_ret
      exact ⟨rfl, Below.refl _ _⟩
  · go_enter Tryd.func6, Tryd.ntmps6
    go_wp2_with fail
    refine HF.out.mono ?_
    rintro e w1 ⟨B, rfl, rfl⟩
    cases B
    · go_wp2_with fail
      go_ret
      exact ⟨rfl, Below.refl _ _⟩
    · go_wp2_with fail
      go_ret
      exact ⟨rfl, Below.refl _ _⟩

/-- What holds at a round's head of FnTagsAll. -/
structure AllS (tags : Nat) (w : World) (k : Nat) (v : Value) (T : ByteArray) (B : Bool) (wr : World) : Prop where
  rest : ∃ cs : List (List (List Tm)), cs.length = k ∧ (∀ c ∈ cs, OkC c ∧ c ≠ []) ∧ OwnR cellsU 1 9 wr w.heap.size v (cs.map ct) ∧ T = ⟨(goS cs).toArray⟩ ∧ B = cs.all (cv tags)
  bel : Below w.heap.size w wr

set_option maxHeartbeats 1000000 in
set_option maxRecDepth 100000 in
theorem fnTagsAll_few (A : Option Addr) (n cap tags : Nat) (htg : tags < 256) (w : World) (h0 : 0 < n) (h100 : n ≤ 100) (hnc : n ≤ cap) (hr : RowsR w A n) (hT : TabP w) :
    Calls Tryd.prog 6 #[.slice A n cap, .int .u8 (tags : Int)] w fun e w' => e = .returned (.bool true) ∧ Below w.heap.size w w' := by
  obtain ⟨m, hm⟩ : ∃ m, min n 4 = m := ⟨_, rfl⟩
  have hm4 : m ≤ 4 := by omega
  have hmn : m ≤ n := by omega
  have hmm : (min (n : Int) 4) = (m : Int) := by omega
  have HF := Lib.hid (fits3_any A n cap w hr)
  have HT := Lib.hid hT
  obtain ⟨g, o, rfl, hg, hc⟩ := hr h0
  have HC := Lib.hid hc
  have h2 : ((n : Int) == 0) = false := beq_eq_false_iff_ne.2 (by omega)
  have h3 : ¬ (100 : Int) < (n : Int) := by omega
  have HA : Hid (AllS tags w 0 (.slice (some ⟨w.heap.size, 0, none⟩) 0 0) ⟨#[]⟩ true (w.alloc (.cells #[] 9))) := Lib.hid ⟨⟨[], rfl, by simp, ownU_empty w w.heap.size (Nat.le_refl _), rfl, rfl⟩, (Below.refl _ _).alloc (Nat.le_refl _) _⟩
  clear hm hT hr hc
  go_enter Tryd.func6, Tryd.ntmps6
  go_wp2_with fail
  refine HF.out.mono ?_
  rintro e w1 ⟨B, rfl, rfl⟩
  cases B
  · go_wp2_with fail
    go_ret
    exact ⟨rfl, Below.refl _ _⟩
  clear HF
  go_wp2_with fail
  go_loopw [5, 6, 7, 33] (fun v s t i wr => ∃ (k : Nat) (T : ByteArray) (B : Bool), k ≤ m ∧ i = .int .i64 k ∧ s = .string T ∧ t = .bool B ∧ T.size ≤ 1000 ∧ AllS tags w k v T B wr) (fun _ _ _ i _ => m - (intOf i).toNat)
  case atStart => exact ⟨0, _, _, Nat.zero_le _, rfl, rfl, rfl, by decide, HA.out⟩
  case round =>
    obtain ⟨k, T, B, hk, rfl, rfl, rfl, hTs, hst⟩ := hrel
    have HS := Lib.hid hst
    clear hst HA
    by_cases hkm : k < m
    · obtain ⟨A', l, c', zs, e0', hin'⟩ := HC.out k (by omega)
      have e0 := (HS.out.bel.cell (p := ⟨g, o + k, none⟩) hg).trans e0'
      have hin := hin'.below (HS.out.bel.mono (Nat.le_refl _))
      clear e0' hin'
      by_cases hl0 : l = 0
      · subst hl0
        have F := Lib.hid HS.out.bel
        clear hin
        go_wp2_with fail
        go_ret
        exact ⟨rfl, F.out⟩
      by_cases hl1 : 100 < l
      · have F := Lib.hid HS.out.bel
        have q1 : ((l : Int) == 0) = false := beq_eq_false_iff_ne.2 (by omega)
        have q2 : (100 : Int) < (l : Int) := by omega
        clear hin
        go_wp2_with fail
        go_ret
        exact ⟨rfl, F.out⟩
      have q1 : ((l : Int) == 0) = false := beq_eq_false_iff_ne.2 (by omega)
      have q2 : ¬ (100 : Int) < (l : Int) := by omega
      obtain ⟨z1, z2, z3, z4⟩ := hin
      obtain ⟨b, off, rfl, hb, hcell⟩ := z4 (by omega)
      have H10 := Lib.hid (termsOf_any b off l c' zs tags htg wr hb z1 (by omega) (by omega) z3 hcell z2 (min l 6) rfl)
      have HOK := Lib.hid (okc_con zs (min l 6) (by omega))
      have HNE := Lib.hid (con_ne zs (min l 6) (by omega))
      obtain ⟨c, hcc⟩ : ∃ c, con zs (min l 6) = c := ⟨_, rfl⟩
      rw [hcc] at H10 HOK HNE
      clear z1 z2 z3 z4 hcell hb hcc
      have HLN := ct_len HOK.out.1 (fun o ho => (HOK.out.2 o ho).1.1)
      obtain ⟨S, hS⟩ : ∃ S : ByteArray, ⟨(ct c).toArray⟩ = S := ⟨_, rfl⟩
      have HSS := Lib.hid hS
      have hSs : S.size ≤ 200 := by rw [← hS]; simp [ByteArray.size]; omega
      have HGO : Hid ((⟨#[47, 47, 32, 43, 98, 117, 105, 108, 100, 32]⟩ : ByteArray) ++ S ++ ⟨#[10]⟩ = ⟨(goC c).toArray⟩) := Lib.hid (by
        rw [← hS]
        apply ByteArray.ext
        apply Array.ext'
        simp [goC])
      rw [hS] at H10
      obtain ⟨V, hV⟩ : ∃ V, cv tags c = V := ⟨_, rfl⟩
      have HVV := Lib.hid hV
      rw [hV] at H10
      clear hS hV HLN
      go_wp2_with fail
      refine H10.out.mono ?_
      rintro e w2 ⟨rfl, bel2⟩
      obtain ⟨cs, k1, k2, k3, k4, k5⟩ := HS.out.rest
      have HB2 := Lib.hid ((HS.out.bel.trans (bel2.mono HS.out.bel.size)).alloc (Nat.le_trans HS.out.bel.size bel2.size) (.cells #[.string S] 9))
      have HW := Lib.hid ((k3.below bel2).alloc (.cells #[.string S] 9))
      have HZ : Hid (w.heap.size ≤ (w2.alloc (.cells #[.string S] 9)).heap.size) := Lib.hid HB2.out.size
      have HNEW : Hid (∀ j u, (cellsU (ct c))[j]? = some u → (w2.alloc (.cells #[.string S] 9)).cell? ⟨w2.heap.size, j, none⟩ = some u) := Lib.hid (by
        intro j u hu
        match j, hu with
        | 0, hu => simp [cellsU] at hu; subst hu; simp [HSS.out])
      have HL : Hid ((cs.map ct).length < 4294967296) := Lib.hid (by simp; omega)
      have HK : Hid ((cs ++ [c]).length = k + 1 ∧ (∀ x ∈ cs ++ [c], OkC x ∧ x ≠ [])) := Lib.hid ⟨by simp [k1], fun x hx => by
        rcases List.mem_append.1 hx with h | h
        · exact k2 x h
        · simp at h; subst h; exact ⟨HOK.out, HNE.out⟩⟩
      have HTT : Hid (T ++ ((⟨#[47, 47, 32, 43, 98, 117, 105, 108, 100, 32]⟩ : ByteArray) ++ S ++ ⟨#[10]⟩) = ⟨(goS (cs ++ [c])).toArray⟩) := Lib.hid (by
        rw [HGO.out, k4, goS_snoc]
        apply ByteArray.ext
        simp)
      have HTZ : Hid ((T ++ ((⟨#[47, 47, 32, 43, 98, 117, 105, 108, 100, 32]⟩ : ByteArray) ++ S ++ ⟨#[10]⟩)).size ≤ 1000) := Lib.hid (by
        rw [HTT.out]
        have h1 := goS_len (cs ++ [c]) (fun x hx => (HK.out.2 x hx).1)
        have h2 := HK.out.1
        rw [h2] at h1
        simp [ByteArray.size] at h1 ⊢
        omega)
      have HBB : Hid ((B && V) = (cs ++ [c]).all (cv tags)) := Lib.hid (by rw [k5, List.all_append, ← HVV.out]; simp)
      clear k1 k2 k3 k4 k5 bel2
      cases B
      · go_wp2_with ((at_builtin; (refine wpList_app1 _ rfl len_cellsU one_cellsU (by decide) 16 _ rfl (by decide) (.tmp 51) (.tmp 53) 33 9 rfl Tryd.underlying33 infoU9 w.heap.size u5 (cs.map ct) rfl HW.out w2.heap.size 1 (ct c) rfl HNEW.out HL.out HZ.out ?_); intro v3 w3 h3 g3 o3 n3))
        have F := HB2.out.grown g3 HZ.out HW.out.le
        have F1 : OwnR cellsU 1 9 w3 w.heap.size v3 ((cs ++ [c]).map ct) := by rw [List.map_append]; exact h3
        exact ⟨⟨k + 1, _, _, by omega, by go_num, rfl, rfl, HTZ.out, ⟨⟨cs ++ [c], HK.out.1, HK.out.2, F1, HTT.out, HBB.out⟩, F⟩⟩, by simp [intOf]; omega⟩
      · go_wp2_with ((at_builtin; (refine wpList_app1 _ rfl len_cellsU one_cellsU (by decide) 16 _ rfl (by decide) (.tmp 51) (.tmp 53) 33 9 rfl Tryd.underlying33 infoU9 w.heap.size u5 (cs.map ct) rfl HW.out w2.heap.size 1 (ct c) rfl HNEW.out HL.out HZ.out ?_); intro v3 w3 h3 g3 o3 n3))
        have F := HB2.out.grown g3 HZ.out HW.out.le
        have F1 : OwnR cellsU 1 9 w3 w.heap.size v3 ((cs ++ [c]).map ct) := by rw [List.map_append]; exact h3
        exact ⟨⟨k + 1, _, _, by omega, by go_num, rfl, rfl, HTZ.out, ⟨⟨cs ++ [c], HK.out.1, HK.out.2, F1, HTT.out, HBB.out⟩, F⟩⟩, by simp [intOf]; omega⟩
    · obtain rfl : k = m := by omega
      obtain ⟨cs, k1, k2, k3, k4, k5⟩ := HS.out.rest
      obtain ⟨A3, c3, e3, hrow3⟩ := k3.form len_cellsU
      have hl3 : (cs.map ct).length = k := by simp [k1]
      rw [hl3] at e3
      subst e3
      have HB := Lib.hid HS.out.bel
      have HK1 := Lib.hid k1
      have HOS : Hid (OkS cs) := Lib.hid ⟨by omega, k2⟩
      have HR3 := Lib.hid hrow3
      have H12 := Lib.hid (tagsOf_any tags wr htg)
      have HGG : Hid (⟨(goS cs).toArray⟩ = T) := Lib.hid k4.symm
      have HVV : Hid (cs.all (cv tags) = B) := Lib.hid k5.symm
      clear k1 k2 k3 k4 k5 hl3 hrow3 HS
      go_wp2_with fail
      refine H12.out.mono ?_
      rintro e w2 ⟨v2, rfl, hown2, bel2⟩
      have HB2 := Lib.hid (HB.out.trans (bel2.mono HB.out.size))
      obtain ⟨A2, c2, e2, hr2⟩ := hown2.form len_cellsU
      have H14 := Lib.hid (tagsAll_any A3 c3 k cs HOS.out HK1.out A2 c2 (TG tags 6).length tags htg w2 (HT.out.below HB2.out) (HR3.out.below bel2) hr2 rfl)
      obtain ⟨q, hq⟩ : ∃ q, (TG tags 6).length = q := ⟨_, rfl⟩
      rw [hq] at e2 H14
      rw [HGG.out, HVV.out] at H14
      subst e2
      clear bel2 hown2 hr2 hq
      go_wp2_with fail
      refine H14.out.mono ?_
      rintro e w3 ⟨rfl, bel3⟩
      have HB3 := Lib.hid (HB2.out.trans (bel3.mono HB2.out.size))
      clear bel3
      go_wp2_with fail
      go_ret
      exact ⟨by simp, HB3.out⟩

end Go.Proofs.YtjmmfhgdjndabaaRRDoor
