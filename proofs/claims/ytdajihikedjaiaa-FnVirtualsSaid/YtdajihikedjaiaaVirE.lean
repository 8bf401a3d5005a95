/- Walk of FnVirtuals. Conditions: one to fifty numbers. -/
import Derived.Test.YtdajihikedjaiaaVirM
import Derived.BigQuiet
import Derived.Deep.QuietTactic
import Derived.Deep.RegionLaw
namespace Go.Proofs.Ytdajihikedjaiaa
open Go.RowKit Go.Maps
def kOf (n : Nat) : Nat := 1 + n % 3
def sOf (n : Nat) : Nat := if n % 3 = 0 then [1, 2, 3, 7, 15].getD (n / 4 % 5) 0 else if n % 3 = 1 then [31, 63, 127].getD (n / 4 % 3) 0 else 15
theorem ownI_empty (w : World) (base : Nat) (hb : base ≤ w.heap.size) : OwnR cellsI 1 3 (w.alloc (.cells #[] 3)) base (.slice (some ⟨w.heap.size, 0, none⟩) 0 0) [] := World.ownsRow_lit w #[] 0 hb (by decide) (by simp)
theorem cell_newI (W : World) (S N : Nat) (h : W.heap.size = N) (i : Nat) (u : Value) (hu : (cellsI S)[i]? = some u) : (W.alloc (.cells #[.int .i64 (S : Int)] 3)).cell? ⟨N, i, none⟩ = some u := by
  subst h
  match i, hu with
  | 0, hu => simp [cellsI] at hu; subst hu; simp
theorem cell_newD (W : World) (S N : Nat) (h : W.heap.size = N) (i : Nat) (u : Value) (hu : (cellsI S)[i]? = some u) : (W.alloc (.cells #[.int .i64 (S : Int)] 3)).drew.cell? ⟨N, i, none⟩ = some u := cell_newI W S N h i u hu

theorem sOf_lt (z : Nat) : sOf z < 128 := by
  unfold sOf
  split
  · have h : z / 4 % 5 = 0 ∨ z / 4 % 5 = 1 ∨ z / 4 % 5 = 2 ∨ z / 4 % 5 = 3 ∨ z / 4 % 5 = 4 := by omega
    rcases h with h | h | h | h | h <;> rw [h] <;> decide
  · split
    · have h : z / 4 % 3 = 0 ∨ z / 4 % 3 = 1 ∨ z / 4 % 3 = 2 := by omega
      rcases h with h | h | h <;> rw [h] <;> decide
    · decide

theorem sOf_mem (z : Nat) : sOf z ∈ [1, 2, 3, 7, 15, 31, 63, 127] := by
  unfold sOf
  split
  · have h : z / 4 % 5 = 0 ∨ z / 4 % 5 = 1 ∨ z / 4 % 5 = 2 ∨ z / 4 % 5 = 3 ∨ z / 4 % 5 = 4 := by omega
    rcases h with h | h | h | h | h <;> rw [h] <;> decide
  · split
    · have h : z / 4 % 3 = 0 ∨ z / 4 % 3 = 1 ∨ z / 4 % 3 = 2 := by omega
      rcases h with h | h | h <;> rw [h] <;> decide
    · decide

theorem round_fin {w w2 W w4 : World} {u4 v2 v4 : Value} {lk ls : List Nat} (hW : Below w2.heap.size w2 W) (g4 : W.grownBy w4 u4.ownBlock) (hu : OwnR cellsI 1 3 w2 w.heap.size v2 lk) (hb : Below w.heap.size w w2) (hne : v2.ownBlock ≠ u4.ownBlock)
    (o4 : v4.ownBlock = u4.ownBlock ∨ v4.ownBlock = some W.heap.size) (hv : OwnR cellsI 1 3 w2 w.heap.size u4 ls) : OwnR cellsI 1 3 w4 w.heap.size v2 lk ∧ v2.ownBlock ≠ v4.ownBlock ∧ Below w.heap.size w w4 := by
  have hb2 := hb.trans (hW.mono hb.size)
  refine ⟨(hu.below hW).kept g4 (.inr hne), ?_, hb2.grown g4 hb2.size hv.le⟩
  rcases o4 with e | e
  · rw [e]; exact hne
  · rw [e]
    intro e2
    have h1 := hu.lt _ e2
    have h2 := hW.size
    omega

set_option maxHeartbeats 4000000 in
set_option maxRecDepth 100000 in
theorem fnVirtuals_few (b off n cap : Nat) (l : List Nat) (w : World) (hlt : b < w.heap.size) (hn : l.length = n) (h0 : 0 < n) (h50 : n ≤ 50) (hnc : n ≤ cap)
    (hcell : ∀ (k z : Nat), l[k]? = some z → w.cell? ⟨b, off + k, none⟩ = some (.int .u8 (z : Int))) (h256 : ∀ z ∈ l, z < 256) :
    Calls Try.prog 4 #[.slice (some ⟨b, off, none⟩) n cap] w fun e w' => e = .returned (.bool true) ∧ Below w.heap.size w w' := by
  have HN := Lib.hid hn
  have HC := Lib.hid hcell
  have H2 := Lib.hid h256
  clear hn hcell h256
  have h1 : ¬ (2147483647 : Int) < (n : Int) := by omega
  have h2 : ((n : Int) == 0) = false := beq_eq_false_iff_ne.2 (by omega)
  have h3 : ¬ (50 : Int) < (n : Int) := by omega
  go_enter Try.func4, Try.ntmps4
  go_wp2_with fail
  go_loopw [3, 4, 27] (fun u v i wr => ∃ j : Nat, j ≤ n ∧ i = .int .i64 j ∧ OwnR cellsI 1 3 wr w.heap.size u ((l.take j).map kOf) ∧ OwnR cellsI 1 3 wr w.heap.size v ((l.take j).map sOf) ∧ u.ownBlock ≠ v.ownBlock ∧ Below w.heap.size w wr) (fun _ _ i _ => n - (intOf i).toNat)
  case atStart =>
    refine ⟨0, Nat.zero_le _, rfl, ?_, ?_, by simp [Value.ownBlock], ((Below.refl _ _).alloc (Nat.le_refl _) _).alloc (by simp) _⟩
    · exact (ownI_empty w w.heap.size (Nat.le_refl _)).alloc _
    · have := ownI_empty (w.alloc (.cells #[] 3)) w.heap.size (by simp)
      simpa using this
  case round =>
    obtain ⟨j, hj, rfl, hu, hv, huv, bel⟩ := hrel
    by_cases hjn : j < n
    · obtain ⟨z, hz⟩ : ∃ z, l[j]? = some z := ⟨l[j]'(by have := HN.out; omega), List.getElem?_eq_getElem _⟩
      have hz256 := H2.out z (List.mem_of_getElem? hz)
      have e0 := (bel.cell (p := ⟨b, off + j, none⟩) hlt).trans (HC.out j z hz)
      have HZ := Lib.hid hz
      have HU := Lib.hid hu
      have HV := Lib.hid hv
      clear hu hv hz
      obtain ⟨t, ht⟩ : ∃ t, z % 3 = t := ⟨_, rfl⟩
      obtain ⟨p, hp⟩ : ∃ p, z / 4 % 5 = p := ⟨_, rfl⟩
      obtain ⟨q, hq⟩ : ∃ q, z / 4 % 3 = q := ⟨_, rfl⟩
      have ht3 : t < 3 := by omega
      have hp5 : p < 5 := by omega
      have hq3 : q < 3 := by omega
      have htI : (z : Int) % 3 = (t : Int) := by omega
      have hpI : (z : Int) / 4 % 5 = (p : Int) := by omega
      have hqI : (z : Int) / 4 % 3 = (q : Int) := by omega
      have hb1 : (p : Int) < 5 := by omega
      have hb2 : (q : Int) < 3 := by omega
      have hb3 : (t : Int) < 3 := by omega
      have htM : (z : Int).tmod 3 = (t : Int) := by rw [Int.tmod_eq_emod_of_nonneg (by omega)]; exact htI
      have hpM : ((z : Int) / 4).tmod 5 = (p : Int) := by rw [Int.tmod_eq_emod_of_nonneg (by omega)]; exact hpI
      have hqM : ((z : Int) / 4).tmod 3 = (q : Int) := by rw [Int.tmod_eq_emod_of_nonneg (by omega)]; exact hqI
      obtain ⟨K, hK⟩ : ∃ K, kOf z = K := ⟨_, rfl⟩
      have hKI : 1 + (t : Int) = (K : Int) := by rw [← hK]; unfold kOf; omega
      obtain ⟨X, hX⟩ : ∃ X, [1, 2, 3, 7, 15].getD p 0 = X := ⟨_, rfl⟩
      obtain ⟨Y, hY⟩ : ∃ Y, [31, 63, 127].getD q 0 = Y := ⟨_, rfl⟩
      obtain ⟨S, hS⟩ : ∃ S, sOf z = S := ⟨_, rfl⟩
      have hXI : ([.int .i64 1, .int .i64 2, .int .i64 3, .int .i64 7, .int .i64 15] : List Value)[p]'(by simpa using hp5) = .int .i64 (X : Int) := by
        have h : p = 0 ∨ p = 1 ∨ p = 2 ∨ p = 3 ∨ p = 4 := by omega
        subst hX
        rcases h with rfl | rfl | rfl | rfl | rfl <;> rfl
      have hYI : ([.int .i64 31, .int .i64 63, .int .i64 127] : List Value)[q]'(by simpa using hq3) = .int .i64 (Y : Int) := by
        have h : q = 0 ∨ q = 1 ∨ q = 2 := by omega
        subst hY
        rcases h with rfl | rfl | rfl <;> rfl
      have hSI : ([.int .i64 (X : Int), .int .i64 (Y : Int), .int .i64 15] : List Value)[t]'(by simpa using ht3) = .int .i64 (S : Int) := by
        have h : t = 0 ∨ t = 1 ∨ t = 2 := by omega
        unfold sOf at hS
        rw [ht, hp, hq, hX, hY] at hS
        subst hS
        rcases h with rfl | rfl | rfl <;> rfl
      have HTK : Hid ((l.take (j + 1)).map kOf = (l.take j).map kOf ++ [K]) := Lib.hid (by rw [List.take_add_one, HZ.out, List.map_append, ← hK]; rfl)
      have HTS : Hid ((l.take (j + 1)).map sOf = (l.take j).map sOf ++ [S]) := Lib.hid (by rw [List.take_add_one, HZ.out, List.map_append, ← hS]; rfl)
      have HUA := Lib.hid (HU.out.alloc (.cells #[.int .i64 (K : Int)] 3))
      have HNEW : Hid (∀ (i : Nat) (u : Value), (cellsI K)[i]? = some u → (wr.alloc (.cells #[.int .i64 (K : Int)] 3)).cell? ⟨wr.heap.size, i, none⟩ = some u) := Lib.hid (by
        intro i u hu
        match i, hu with
        | 0, hu => simp [cellsI] at hu; subst hu; simp)
      have HLK : Hid (((l.take j).map kOf).length < 4294967296) := Lib.hid (by have := HN.out; simp; omega)
      have HLS : Hid (((l.take j).map sOf).length < 4294967296) := Lib.hid (by have := HN.out; simp; omega)
      have HZK : Hid (w.heap.size ≤ (wr.alloc (.cells #[.int .i64 (K : Int)] 3)).heap.size) := Lib.hid (by have := bel.size; simp; omega)
      have HB := Lib.hid bel
      have HNE := Lib.hid huv
      clear ht hp hq hK hX hY hS bel huv
      go_wp2_with ((at_builtin; (refine wpList_app1 _ rfl len_cellsI one_cellsI (by decide) 8 _ rfl (by decide) (.tmp 31) (.tmp 36) 28 3 rfl Try.underlying28 infoI3 w.heap.size u3 ((l.take j).map kOf) rfl HUA.out wr.heap.size 1 K rfl HNEW.out HLK.out HZK.out ?_); intro v2 w2 h2 g2 o2 n2))
      have HU2 := Lib.hid h2
      have HB2 := Lib.hid ((HB.out.alloc HB.out.size (.cells #[.int .i64 (K : Int)] 3)).grown g2 HZK.out HUA.out.le)
      have HV2 := Lib.hid ((HV.out.alloc (.cells #[.int .i64 (K : Int)] 3)).kept g2 (.inr (fun e => HNE.out e.symm)))
      have HV3 : Hid (∀ W', Below w2.heap.size w2 W' → OwnR cellsI 1 3 W' w.heap.size u4 ((l.take j).map sOf)) := Lib.hid (fun W' h => HV2.out.below h)
      have HB3 := Lib.hid HB2.out.size
      have HFIN : Hid (∀ (W w4 : World) (v4 : Value), Below w2.heap.size w2 W → W.grownBy w4 u4.ownBlock → (v4.ownBlock = u4.ownBlock ∨ v4.ownBlock = some W.heap.size) → OwnR cellsI 1 3 w4 w.heap.size v4 ((l.take j).map sOf ++ [S]) →
          OwnR cellsI 1 3 w4 w.heap.size v2 ((l.take (j + 1)).map kOf) ∧ OwnR cellsI 1 3 w4 w.heap.size v4 ((l.take (j + 1)).map sOf) ∧ v2.ownBlock ≠ v4.ownBlock ∧ Below w.heap.size w w4) := Lib.hid (fun W w4 v4 hW hg ho hown => by
        have hne : v2.ownBlock ≠ u4.ownBlock := by
          rcases o2 with e | e
          · rw [e]; exact HNE.out
          · rw [e]
            intro e3
            have := HV.out.lt _ e3.symm
            simp at this
            omega
        have := round_fin hW hg HU2.out HB2.out hne ho HV2.out
        exact ⟨by rw [HTK.out]; exact this.1, by rw [HTS.out]; exact hown, this.2.1, this.2.2⟩)
      go_wp2_with fail
      go_region_law ((refine step_app1 _ rfl len_cellsI one_cellsI (by decide) 8 _ rfl (by decide) (.tmp 38) (.tmp 56) 28 3 rfl Try.underlying28 infoI3 w.heap.size u4 ((l.take j).map sOf) rfl (HV3.out _ (by first | exact (((((Below.refl _ w2).alloc (Nat.le_refl _) _).alloc (by simp) _).alloc (by simp <;> omega) _).alloc (by simp <;> omega) _).drew | exact ((((((Below.refl _ w2).drew).alloc (Nat.le_refl _) _).alloc (by simp) _).alloc (by simp <;> omega) _).alloc (by simp <;> omega) _))) _ 1 S rfl (by first | exact fun i u hu => cell_newI _ S _ (by simp) i u hu | exact fun i u hu => cell_newD _ S _ (by simp) i u hu) HLS.out (Nat.le_trans HB3.out (by simp <;> omega)) ?_; intro v4 w4 h4 g4 o4 n4))
      all_goals go_wp2
      all_goals (
        have hF := HFIN.out _ w4 v4 (by first | exact (((((Below.refl _ w2).alloc (Nat.le_refl _) _).alloc (by simp) _).alloc (by simp <;> omega) _).alloc (by simp <;> omega) _).drew | exact ((((((Below.refl _ w2).drew).alloc (Nat.le_refl _) _).alloc (by simp) _).alloc (by simp <;> omega) _).alloc (by simp <;> omega) _)) g4 o4 h4
        exact ⟨⟨j + 1, by omega, by go_num, hF.1, hF.2.1, hF.2.2.1, hF.2.2.2⟩, by simp [intOf]; omega⟩)
    · obtain rfl : j = n := by omega
      rw [List.take_of_length_le (by rw [HN.out]; exact Nat.le_refl _)] at hu hv
      have hk4 : ∀ k ∈ l.map kOf, k < 4 := fun k hk => by
        obtain ⟨z, -, rfl⟩ := List.mem_map.1 hk
        unfold kOf
        omega
      have hs128 : ∀ s ∈ l.map sOf, s < 128 := fun s hs => by
        obtain ⟨z, -, rfl⟩ := List.mem_map.1 hs
        exact sOf_lt z
      have HKS := Lib.hid (fun (i : Nat) (z : Nat) (hz : l[i]? = some z) => (show (l.map kOf)[i]? = some (kOf z) ∧ (l.map sOf)[i]? = some (sOf z) by simp [hz]))
      have HLE := Lib.hid (show (l.map kOf).length = j ∧ (l.map sOf).length = j by simp [HN.out])
      obtain ⟨A3, c3, e3, hrA⟩ := hu.form len_cellsI
      obtain ⟨A4, c4, e4, hrB⟩ := hv.form len_cellsI
      rw [HLE.out.1] at e3
      rw [HLE.out.2] at e4
      have HVIR := Lib.hid (virtuals_any A3 A4 c3 c4 j (l.map kOf) (l.map sOf) wr hrA hrB HLE.out.1 HLE.out.2 h50 hk4 hs128)
      have HRA := Lib.hid hrA
      have HRB := Lib.hid hrB
      have HB := Lib.hid bel
      subst e3
      subst e4
      clear hu hv huv hrA hrB bel hk4 hs128
      go_wp2_with fail
      refine HVIR.out.mono ?_
      rintro e w1 ⟨v7, L, rfl, hown, hL, hok, bel1⟩
      obtain ⟨A7, c7, e7, hr7⟩ := hown.form len_cellsT
      rw [hL] at e7
      have HB1 := Lib.hid (HB.out.trans (bel1.mono HB.out.size))
      have HR7 := Lib.hid hr7
      have HOK := Lib.hid hok
      have HL := Lib.hid hL
      have HRA1 := Lib.hid (HRA.out.below bel1)
      have HRB1 := Lib.hid (HRB.out.below bel1)
      subst e7
      clear hown hr7 hok bel1 hL HVIR HRA HRB
      go_wp2_with fail
      go_loopw [69] (fun i wv => ∃ y : Nat, y ≤ j ∧ i = .int .i64 y ∧ Below w1.heap.size w1 wv) (fun i _ => j - (intOf i).toNat)
      case atStart => exact ⟨0, Nat.zero_le _, rfl, Below.refl _ _⟩
      case round =>
        obtain ⟨y, hy, rfl, bel2⟩ := hrel
        by_cases hyj : y < j
        · obtain ⟨z, hz⟩ : ∃ z, l[y]? = some z := ⟨l[y]'(by have := HN.out; omega), List.getElem?_eq_getElem _⟩
          obtain ⟨hks, hss⟩ := HKS.out y z hz
          obtain ⟨x, hx⟩ : ∃ x, L[y]? = some x := ⟨L[y]'(by have := HL.out; omega), List.getElem?_eq_getElem _⟩
          obtain ⟨o1, o2, o3⟩ := HOK.out y x hx
          obtain ⟨gA, rfl, hgA, hcA⟩ := HRA1.out.numAt (by have := HLE.out; omega)
          obtain ⟨gB, rfl, hgB, hcB⟩ := HRB1.out.numAt (by have := HLE.out; omega)
          obtain ⟨g7, rfl, hg7, hc7⟩ := HR7.out (by have := HL.out; omega)
          obtain ⟨a, k, s, N⟩ := x
          simp only at o1 o2 o3
          rw [hks] at o1
          rw [hss] at o2
          obtain rfl := Option.some.inj o1
          obtain rfl := Option.some.inj o2
          obtain ⟨K, hK⟩ : ∃ K, kOf z = K := ⟨_, rfl⟩
          obtain ⟨S, hS⟩ : ∃ S, sOf z = S := ⟨_, rfl⟩
          rw [hK] at hks hx o3
          rw [hS] at hss hx
          have eA := (bel2.cell (p := ⟨gA, y, none⟩) hgA).trans (hcA y K hks)
          have eB := (bel2.cell (p := ⟨gB, y, none⟩) hgB).trans (hcB y S hss)
          have f0 := (bel2.cell (p := ⟨g7, y * 6, none⟩) hg7).trans (hc7 y _ hx 0 _ rfl)
          have f1 := (bel2.cell (p := ⟨g7, y * 6 + 1, none⟩) hg7).trans (hc7 y _ hx 1 _ rfl)
          have f2 := (bel2.cell (p := ⟨g7, y * 6 + 2, none⟩) hg7).trans (hc7 y _ hx 2 _ rfl)
          have f3 := (bel2.cell (p := ⟨g7, y * 6 + 3, none⟩) hg7).trans (hc7 y _ hx 3 _ rfl)
          have f4 := (bel2.cell (p := ⟨g7, y * 6 + 4, none⟩) hg7).trans (hc7 y _ hx 4 _ rfl)
          have f5 := (bel2.cell (p := ⟨g7, y * 6 + 5, none⟩) hg7).trans (hc7 y _ hx 5 _ rfl)
          obtain ⟨I, hI⟩ : ∃ I, idOf a K = I := ⟨_, rfl⟩
          obtain ⟨Z, hZ⟩ : ∃ Z, szOf S = Z := ⟨_, rfl⟩
          simp only [hI, hZ] at f1 f3
          have hS8 := sOf_mem z
          rw [hS] at hS8
          have hmm := @run_makeMap Try.prog
          obtain ⟨m1, m2, m3, m4, m5, m6, m7, m8, r1, r2, r3, r4, r5, r6, r7, r8, rl, bm⟩ := lit36 (wr.alloc (.cells #[.int .i64 (K : Int), .int .u32 (I : Int), .int .u16 (S : Int), .int .i64 (Z : Int), .string N, .bool true] 35)) (wr.heap.size + 1) (by simp) S hS8 Z hZ
          have lw : wr.heap.size < (wr.alloc (.cells #[.int .i64 (K : Int), .int .u32 (I : Int), .int .u16 (S : Int), .int .i64 (Z : Int), .string N, .bool true] 35)).heap.size := by simp
          have t0 := (bm.cell (p := ⟨wr.heap.size, 0, none⟩) lw).trans (show _ = some (Value.int .i64 (K : Int)) by simp)
          have t1 := (bm.cell (p := ⟨wr.heap.size, 1, none⟩) lw).trans (show _ = some (Value.int .u32 (I : Int)) by simp)
          have t2 := (bm.cell (p := ⟨wr.heap.size, 2, none⟩) lw).trans (show _ = some (Value.int .u16 (S : Int)) by simp)
          have t3 := (bm.cell (p := ⟨wr.heap.size, 3, none⟩) lw).trans (show _ = some (Value.int .i64 (Z : Int)) by simp)
          have t5 := (bm.cell (p := ⟨wr.heap.size, 5, none⟩) lw).trans (show _ = some (Value.bool true) by simp)
          have bw : Below wr.heap.size wr m8 := ((Below.refl _ _).alloc (Nat.le_refl _) _).trans (bm.mono (by simp))
          have eA8 := (bw.cell (p := ⟨gA, y, none⟩) (Nat.lt_of_lt_of_le hgA bel2.size)).trans eA
          have eB8 := (bw.cell (p := ⟨gB, y, none⟩) (Nat.lt_of_lt_of_le hgB bel2.size)).trans eB
          have BW := Lib.hid (bel2.trans (bw.mono bel2.size))
          have hK4 : K < 4 := by rw [← hK]; unfold kOf; omega
          have hay : a ≤ y := by rw [o3]; exact Nat.le_trans List.count_le_length (List.length_take_le _ _)
          obtain ⟨q1, q2⟩ := bits_at (a := a) (k := K) (by omega) hK4 hI
          have w1' : IntKind.i64.wrap (S : Int) = S := IntWalk.i64_in _ (by have := sOf_lt z; omega)
          have w2' : IntKind.i64.wrap (K : Int) = K := IntWalk.i64_in _ (by omega)
          have lm8 : wr.heap.size < m8.heap.size := Nat.lt_of_lt_of_le lw bm.size
          have HT1 : Hid (∀ W, Below m8.heap.size m8 W → W.cell? ⟨wr.heap.size, 1, none⟩ = some (.int .u32 (I : Int))) := Lib.hid (fun W hW => (hW.cell (p := ⟨wr.heap.size, 1, none⟩) lm8).trans t1)
          have HG7 : Hid (∀ W, Below m8.heap.size m8 W → ∀ (v : Nat) (x : Nat × Nat × Nat × ByteArray), L[v]? = some x → W.cell? ⟨g7, v * 6 + 1, none⟩ = some (.int .u32 (idOf x.1 x.2.1 : Nat))) := Lib.hid (fun W hW v x hv =>
            (hW.cell (p := ⟨g7, v * 6 + 1, none⟩) (Nat.lt_of_lt_of_le (Nat.lt_of_lt_of_le hg7 bel2.size) bw.size)).trans ((bw.cell (p := ⟨g7, v * 6 + 1, none⟩) (Nat.lt_of_lt_of_le hg7 bel2.size)).trans ((bel2.cell (p := ⟨g7, v * 6 + 1, none⟩) hg7).trans (hc7 v x hv 1 _ rfl))))
          have HID : Hid (∀ (v : Nat) (x : Nat × Nat × Nat × ByteArray), v < y → L[v]? = some x → idOf x.1 x.2.1 ≠ I) := Lib.hid (fun v x hv hx2 => by
            rw [← hI]
            exact id_ne HOK.out (fun k hk => by
              obtain ⟨z, -, rfl⟩ := List.mem_map.1 hk
              unfold kOf
              omega) hx2 hx hv)
          clear bm bw lw lm8
          go_wp2_with fail
          go_quiet (fail)
          go_wp2_with fail
          go_loopw [128] (fun i wv => ∃ v : Nat, v ≤ y ∧ i = .int .i64 v ∧ Below m8.heap.size m8 wv) (fun i _ => y - (intOf i).toNat)
          case atStart => exact ⟨0, Nat.zero_le _, rfl, ⟨rfl, rfl, rfl, Nat.le_refl _, fun _ _ => rfl⟩⟩
          case round =>
            obtain ⟨v, hv, rfl, bel3⟩ := hrel
            by_cases hvy : v < y
            · obtain ⟨x, hx2⟩ : ∃ x, L[v]? = some x := ⟨L[v]'(by have := HL.out; omega), List.getElem?_eq_getElem _⟩
              have c1 := HT1.out wr bel3
              have c2 := HG7.out wr bel3 v x hx2
              have c3' := HID.out v x hvy hx2
              obtain ⟨J, hJ⟩ : ∃ J, idOf x.1 x.2.1 = J := ⟨_, rfl⟩
              rw [hJ] at c2 c3'
              have hne : ((J : Int) == (I : Int)) = false := beq_eq_false_iff_ne.2 (by omega)
              have B3 := Lib.hid bel3
              clear hx2 hJ bel3
              go_wp2_with fail
              go_quiet (fail)
              go_wp2_with fail
              exact ⟨⟨v + 1, by omega, by go_num, ⟨B3.out.os, B3.out.tape, B3.out.output, B3.out.size, B3.out.block⟩⟩, by simp [intOf]; omega⟩
            · obtain rfl : v = y := by omega
              have F := Lib.hid (BW.out.trans (bel3.mono BW.out.size))
              clear bel3
              go_wp2_with fail
              exact ⟨⟨v + 1, by omega, by go_num, F.out⟩, by simp [intOf]; omega⟩
        · obtain rfl : y = j := by omega
          have F := Lib.hid (HB1.out.trans (bel2.mono HB1.out.size))
          clear bel2
          go_wp2
          go_ret
          exact ⟨rfl, F.out⟩

set_option maxRecDepth 100000 in
theorem fnVirtuals_out (a : Option Addr) (n c : Nat) (w : World) (h : 50 < n ∨ n = 0) :
    Calls Try.prog 4 #[.slice a n c] w fun e w' => e = .returned (.bool true) ∧ Below w.heap.size w w' := by
  by_cases h1 : (2147483647 : Int) < (n : Int)
  · go_enter Try.func4, Try.ntmps4
    go_wp2_with fail
    go_ret
    exact ⟨rfl, Below.refl _ _⟩
  · rcases h with h | rfl
    · have h0 : ((n : Int) == 0) = false := beq_eq_false_iff_ne.2 (by omega)
      have h2 : (50 : Int) < (n : Int) := by omega
      go_enter Try.func4, Try.ntmps4
      go_wp2_with fail
      go_ret
      exact ⟨rfl, Below.refl _ _⟩
    · go_enter Try.func4, Try.ntmps4
      go_wp2_with fail
      go_ret
      exact ⟨rfl, Below.refl _ _⟩

end Go.Proofs.Ytdajihikedjaiaa
