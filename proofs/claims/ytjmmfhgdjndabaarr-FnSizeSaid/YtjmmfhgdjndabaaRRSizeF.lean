/- Walk of FnSize, at lists that are not empty. Conditions: lengths as stated. -/
import Derived.Test.YtjmmfhgdjndabaaRRSizeE
namespace Go.Proofs.YtjmmfhgdjndabaaRR
open Go.RowKit

/-- The slice reads as the bytes ns. -/
def IsB (w : World) (a : Option Addr) (len : Nat) (ns : List Nat) : Prop :=
  ns.length = len ∧ (∀ z ∈ ns, z < 256) ∧ (0 < len → ∃ b off, a = some ⟨b, off, none⟩ ∧ b < w.heap.size ∧ ∀ k z, ns[k]? = some z → w.cell? ⟨b, off + k, none⟩ = some (.int .u8 (z : Nat)))

/-- The data of the lists. -/
def dl (ps ks : List Nat) (m : Nat) : List (Nat × Nat × Nat) := (List.range m).map fun j => (ps.getD j 0, ks.getD (j % ks.length) 0 % 8, j)

def cellsS (y : Nat × Nat × Nat) : List Value := [.int .i64 (y.1 : Int), .int .i64 ((y.1 : Int) + (sz y.2.1 : Nat))]
theorem len_cellsS (d : Nat × Nat × Nat) : (cellsS d).length = 2 := rfl
theorem one_cellsS (d : Nat × Nat × Nat) : ∀ u ∈ cellsS d, u.oneCell' = true := by
  intro u hu
  simp [cellsS] at hu
  rcases hu with rfl | rfl <;> rfl

theorem info27 : (Try.prog.info? 27).map (fun i => (i.zero, i.size, i.bytes)) = some (some (.agg #[.int .i64 0, .int .i64 0, .int .u64 0]), 3, 24) := by kernel_rfl
theorem info28 : (Try.prog.info? 28).map (fun i => (i.zero, i.size, i.bytes)) = some (some (.agg #[.int .i64 0, .int .i64 0]), 2, 16) := by kernel_rfl

theorem ok_dl {ps ks : List Nat} {m n n' : Nat} {l : List (Nat × Nat × Nat)} (hl : dl ps ks m = l) (hps : ps.length = n) (hks : ks.length = n') (hp : ∀ z ∈ ps, z < 256) (h0 : 0 < n') : OkD l := by
  subst hl
  intro y hy
  obtain ⟨j, _, rfl⟩ := List.mem_map.1 hy
  constructor
  · show ps.getD j 0 ≤ 1000
    rw [List.getD_eq_getElem?_getD]
    cases h : ps[j]? with
    | none => simp
    | some z => have := hp z (List.mem_of_getElem? h); simp; omega
  · exact Nat.mod_lt _ (by decide)
theorem okb_dl {ps ks : List Nat} {m : Nat} {l : List (Nat × Nat × Nat)} (hl : dl ps ks m = l) (hm : m ≤ 128) : OkB l := by
  subst hl
  intro y hy
  obtain ⟨j, hj, rfl⟩ := List.mem_map.1 hy
  have := List.mem_range.1 hj
  show j < 128
  omega

theorem OwnR.rowAt {α : Type} {f : α → List Value} {s : Nat} (hf : ∀ x, (f x).length = s) {e : TypeId} {w : World} {base : Nat} {A : Option Addr} {n c : Nat} {l : List α} (h : OwnR f s e w base (.slice A n c) l) : RowR f s w A l := by
  obtain ⟨A', c', e', hr⟩ := h.form hf
  simp only [Value.slice.injEq] at e'
  obtain ⟨rfl, -, -⟩ := e'
  exact hr

/-- Whether the first k data lie apart, and the next one apart from the first j of them. -/
def rr (l : List (Nat × Nat × Nat)) (k : Nat) (x : Nat × Nat) (j : Nat) : Bool := rightK (PK l) k && ((l.take k).take j).all fun y => apart x (y.1, y.2.1)
theorem rr_step {l : List (Nat × Nat × Nat)} {k : Nat} {x : Nat × Nat} {j : Nat} {y : Nat × Nat × Nat} (hy : (l.take k)[j]? = some y) : rr l k x (j + 1) = (rr l k x j && apart x (y.1, y.2.1)) := by
  unfold rr
  rw [List.take_add_one, hy, List.all_append, Bool.and_assoc]
  simp
theorem rr_end {l : List (Nat × Nat × Nat)} {k : Nat} {x : Nat × Nat × Nat} (hx : l[k]? = some x) (hk : (l.take k).length = k) : rr l k (x.1, x.2.1) k = rightK (PK l) (k + 1) := by
  unfold rr
  rw [List.take_of_length_le (by omega), right_step hx]

theorem size_wrap (kd e : Nat) (he : kd % 4 = e) : wrap64 ((2 : Int) ^ e) = ((sz kd : Nat) : Int) := by
  unfold sz
  rw [he]
  have h4 : e = 0 ∨ e = 1 ∨ e = 2 ∨ e = 3 := by omega
  rcases h4 with rfl | rfl | rfl | rfl <;> exact (IntWalk.wrap64_in _ (by decide)).trans rfl

theorem own_empty {α : Type} (f : α → List Value) (s : Nat) (w : World) (base : Nat) (e : TypeId) (hb : base ≤ w.heap.size) : OwnR f s e (w.alloc (.cells #[] e)) base (.slice (some ⟨w.heap.size, 0, none⟩) 0 0) [] := World.ownsRow_lit w #[] 0 hb (by decide) (by simp)

/-- What holds at a round's head. -/
structure St (l : List (Nat × Nat × Nat)) (k : Nat) (W : World) (v ms rt v' : Value) (wr : World) : Prop where
  lst : OwnR cellsL 3 27 wr W.heap.size v (l.take k)
  spn : OwnR cellsS 2 28 wr W.heap.size v' (l.take k)
  mst : ms = .int .i64 (mostK (PK l) k : Nat)
  rgt : rt = .bool (rightK (PK l) k)
  bel : Below W.heap.size W wr

set_option maxHeartbeats 2000000 in
set_option maxRecDepth 100000 in
theorem fnSize_few (b off n c b' off' n' c' : Nat) (ps ks : List Nat) (w : World) (hn : n ≤ 100) (hn0 : 0 < n) (hle : n ≤ c) (hn' : n' ≤ 100) (hn0' : 0 < n') (h20 : n ≤ 20) (hps : ps.length = n) (hks : ks.length = n') (hp : ∀ z ∈ ps, z < 256) (hk : ∀ z ∈ ks, z < 256)
    (hb : b < w.heap.size) (hb' : b' < w.heap.size) (hc : ∀ k z, ps[k]? = some z → w.cell? ⟨b, off + k, none⟩ = some (.int .u8 (z : Nat))) (hc' : ∀ k z, ks[k]? = some z → w.cell? ⟨b', off' + k, none⟩ = some (.int .u8 (z : Nat))) :
    Calls Try.prog 3 #[.slice (some ⟨b, off, none⟩) n c, .slice (some ⟨b', off', none⟩) n' c'] w fun e w' => e = .returned (.bool true) ∧ Below w.heap.size w w' := by
  obtain ⟨l, hl⟩ : ∃ l, dl ps ks n = l := ⟨_, rfl⟩
  have HL := Lib.hid hl
  have hll : l.length = n := by rw [← hl]; simp [dl]
  have HPS := Lib.hid hps
  have HKS := Lib.hid hks
  have HLL := Lib.hid hll
  have d1 : decide (2147483647 < (n : Int)) = false := decide_eq_false (by omega)
  have d2 : decide (2147483647 < (n' : Int)) = false := decide_eq_false (by omega)
  have d3 : ((n' : Int) == 0) = false := by simp; omega
  have d4 : decide (100 < (n' : Int)) = false := decide_eq_false (by omega)
  have d5 : decide (100 < (n : Int)) = false := decide_eq_false (by omega)
  clear hl hps hks hll
  go_enter Try.func3, Try.ntmps3
  go_wp2_with fail


  go_loopw [5, 6, 7, 8, 46] (fun v ms rt v' i wr => ∃ k : Nat, k ≤ n ∧ i = .int .i64 k ∧ St l k w v ms rt v' wr) (fun _ _ _ _ i _ => n - (intOf i).toNat)
  case atStart =>
    have := own_empty cellsS 2 (w.alloc (.cells #[] 27)) w.heap.size 28 (by simp)
    simp only [World.size_alloc] at this
    exact ⟨0, Nat.zero_le _, rfl, ⟨(own_empty cellsL 3 w w.heap.size 27 (Nat.le_refl _)).alloc _, this, rfl, rfl, ((Below.refl _ _).alloc (Nat.le_refl _) _).alloc (by simp) _⟩⟩
  case round =>
    obtain ⟨k, hkn, rfl, hst⟩ := hrel
    by_cases hlt : k < n
    · obtain ⟨p, hpk⟩ : ∃ p, ps[k]? = some p := ⟨ps[k]'(by have := HPS.out; omega), List.getElem?_eq_getElem _⟩
      have hr0 : k % n' < n' := Nat.mod_lt _ hn0'
      obtain ⟨q, hqk⟩ : ∃ q, ks[k % n']? = some q := ⟨ks[k % n']'(by have := HKS.out; omega), List.getElem?_eq_getElem _⟩
      have e0 := (hst.bel.cell (p := ⟨b, off + k, none⟩) hb).trans (hc k p hpk)
      have e1 := (hst.bel.cell (p := ⟨b', off' + k % n', none⟩) hb').trans (hc' _ q hqk)
      have hp8 := hp p (List.mem_of_getElem? hpk)
      have hq8 := hk q (List.mem_of_getElem? hqk)
      have hy : l[k]? = some (p, q % 8, k) := by
        rw [← HL.out]
        simp [dl, hlt, List.getD_eq_getElem?_getD, hpk, HKS.out, hqk]
      obtain ⟨hv, hv', rfl, rfl, bel⟩ := hst
      have hlk : (l.take k).length = k := by rw [List.length_take, HLL.out]; omega
      obtain ⟨A2, c2, eA2, -⟩ := OwnR.form len_cellsS hv'
      rw [hlk] at eA2
      subst eA2
      have HV := Lib.hid hv
      have HV' := Lib.hid hv'
      have HY := Lib.hid hy
      obtain ⟨r, hr⟩ : ∃ r, k % n' = r := ⟨_, rfl⟩
      obtain ⟨kd, hkd⟩ : ∃ kd, q % 8 = kd := ⟨_, rfl⟩
      obtain ⟨e, he⟩ : ∃ e, kd % 4 = e := ⟨_, rfl⟩
      obtain ⟨z, hz⟩ : ∃ z, sz kd = z := ⟨_, rfl⟩
      have i1 : (k : Int) % (n' : Int) = (r : Int) := by rw [← hr]; simp
      have i2 : (q : Int) % 8 = (kd : Int) := by rw [← hkd]; simp
      have i3 : (kd : Int) % 4 = (e : Int) := by rw [← he]; simp
      have hrn : r < n' := by omega
      have hk8 : kd < 8 := by omega
      have he4 : e < 4 := by omega
      rw [hr] at e1
      clear hpk hqk hv hv' hy hc hc' hp hk hr hr0
      have i4 : wrap64 ((2 : Int) ^ e) = (z : Int) := by rw [← hz]; exact size_wrap kd e he
      have hz8 : z ≤ 8 := by rw [← hz]; exact sz_le kd
      have HZ := Lib.hid hz
      rw [hkd] at HY
      have HNL : Hid (∀ j u, (cellsL (p, kd, k))[j]? = some u → (wr.alloc (.cells #[.int .i64 (p : Int), .int .i64 (kd : Int), .int .u64 (k : Int)] 27)).cell? ⟨wr.heap.size, j, none⟩ = some u) := Lib.hid (by
        intro j u hu
        match j, hu with
        | 0, hu => simp [cellsL] at hu; subst hu; simp
        | 1, hu => simp [cellsL] at hu; subst hu; simp
        | 2, hu => simp [cellsL] at hu; subst hu; simp)
      have HL1 : Hid ((l.take k).length < 4294967296) := Lib.hid (by rw [List.length_take]; omega)
      have hsz := bel.size
      have HB1 : Hid (w.heap.size ≤ (wr.alloc (.cells #[.int .i64 (p : Int), .int .i64 (kd : Int), .int .u64 (k : Int)] 27)).heap.size) := Lib.hid (by simp; omega)
      have HVA := Lib.hid (HV.out.alloc (.cells #[.int .i64 (p : Int), .int .i64 (kd : Int), .int .u64 (k : Int)] 27))
      clear hkd he hz
      go_wp2_with ((at_builtin; (refine wpList_app1 _ rfl len_cellsL one_cellsL (by decide) 24 _ rfl (by decide) (.tmp 63) (.tmp 70) 23 27 rfl Try.underlying23 info27 w.heap.size u5 (l.take k) rfl HVA.out wr.heap.size 1 (p, kd, k) rfl HNL.out HL1.out HB1.out ?_); intro v1 w1 h1 g1 o1 n1))
      have hs1 := g1.size
      simp only [World.size_alloc] at hs1
      have hv1 : OwnR cellsS 2 28 w1 w.heap.size (.slice A2 k c2) (l.take k) := (HV'.out.alloc (.cells #[.int .i64 (p : Int), .int .i64 (kd : Int), .int .u64 (k : Int)] 27)).kept g1 (own_apart HV'.out HV.out (by decide))
      have hrw := hv1.rowAt len_cellsS
      have HV1 := Lib.hid hv1
      have H1 := Lib.hid h1
      have BEL1 := Lib.hid ((bel.alloc bel.size _).grown g1 (by simp; omega) HV.out.le)
      have HLK := Lib.hid hlk
      clear hv1 h1 g1 o1 n1 hlk
      go_loopw [7, 74] (fun rt i w2 => ∃ j : Nat, j ≤ k ∧ i = .int .i64 j ∧ rt = .bool (rr l k (p, kd) j) ∧ Below w1.heap.size w1 w2) (fun _ i _ => k - (intOf i).toNat)
      case atStart => exact ⟨0, Nat.zero_le _, rfl, by simp [rr], Below.refl _ _⟩
      case round =>
        obtain ⟨j, hjk, rfl, rfl, bel2⟩ := hrel
        by_cases hlj : j < k
        · obtain ⟨y, hyj⟩ : ∃ y, (l.take k)[j]? = some y := ⟨(l.take k)[j]'(by have := HLK.out; omega), List.getElem?_eq_getElem _⟩
          obtain ⟨g2, rfl, hg2, hcs⟩ := hrw (by have := HLK.out; omega)
          have s0 := (bel2.cell (p := ⟨g2, j * 2 + 0, none⟩) hg2).trans (hcs j y hyj 0 _ rfl)
          have s1 := (bel2.cell (p := ⟨g2, j * 2 + 1, none⟩) hg2).trans (hcs j y hyj 1 _ rfl)
          rw [Nat.add_zero] at s0
          have hap : apart (p, kd) (y.1, y.2.1) = (decide (p + z ≤ y.1) || decide (y.1 + sz y.2.1 ≤ p)) := by unfold apart; simp only [HZ.out]
          have RS := Lib.hid ((rr_step (x := (p, kd)) hyj).trans (congrArg (rr l k (p, kd) j && ·) hap))
          obtain ⟨t, ht⟩ : ∃ t, y.1 + sz y.2.1 = t := ⟨_, rfl⟩
          have hti : (y.1 : Int) + (sz y.2.1 : Nat) = (t : Int) := by omega
          rw [hti] at s1
          rw [ht] at RS
          obtain ⟨y1, hy1⟩ : ∃ y1, y.1 = y1 := ⟨_, rfl⟩
          rw [hy1] at s0 RS
          obtain ⟨R, hR⟩ : ∃ R, rr l k (p, kd) j = R := ⟨_, rfl⟩
          have HR := Lib.hid hR
          rw [hR]
          clear hcs hyj hap hR ht hti hy1
          cases R with
          | false =>
            have F : Hid (rr l k (p, kd) (j + 1) = false) := Lib.hid (by rw [RS.out, HR.out]; rfl)
            go_wp2_with fail
            exact ⟨⟨j + 1, by omega, by go_num, by rw [F.out], bel2.alloc bel2.size _⟩, by simp [intOf]; omega⟩
          | true =>
            by_cases q1 : p + z ≤ y1
            · have F : Hid (rr l k (p, kd) (j + 1) = true) := Lib.hid (by rw [RS.out, HR.out]; simp [q1])
              have q2 : decide ((p : Int) + (z : Int) ≤ (y1 : Int)) = true := decide_eq_true (by omega)
              go_wp2_with fail
              exact ⟨⟨j + 1, by omega, by go_num, by rw [F.out], bel2.alloc bel2.size _⟩, by simp [intOf]; omega⟩
            · have q2 : decide ((p : Int) + (z : Int) ≤ (y1 : Int)) = false := decide_eq_false (by omega)
              by_cases q3 : t ≤ p
              · have F : Hid (rr l k (p, kd) (j + 1) = true) := Lib.hid (by rw [RS.out, HR.out]; simp [q3])
                have q4 : decide ((t : Int) ≤ (p : Int)) = true := decide_eq_true (by omega)
                go_wp2_with fail
                exact ⟨⟨j + 1, by omega, by go_num, by rw [F.out], bel2.alloc bel2.size _⟩, by simp [intOf]; omega⟩
              · have F : Hid (rr l k (p, kd) (j + 1) = false) := Lib.hid (by rw [RS.out, HR.out]; simp [q1, q3])
                have q4 : decide ((t : Int) ≤ (p : Int)) = false := decide_eq_false (by omega)
                go_wp2_with fail
                exact ⟨⟨j + 1, by omega, by go_num, by rw [F.out], bel2.alloc bel2.size _⟩, by simp [intOf]; omega⟩
        · obtain rfl : j = k := by omega
          have hend : rr l j (p, kd) j = rightK (PK l) (j + 1) := rr_end HY.out HLK.out
          rw [hend]
          clear hend hrw
          have HVB := Lib.hid ((HV1.out.below bel2).alloc (.cells #[.int .i64 (p : Int), .int .i64 ((p : Int) + (z : Int))] 28))
          have HL2 : Hid ((l.take j).length < 4294967296) := HL1
          have HB2 : Hid (w.heap.size ≤ (wr.alloc (.cells #[.int .i64 (p : Int), .int .i64 ((p : Int) + (z : Int))] 28)).heap.size) := Lib.hid (by have := bel2.size; simp; omega)
          have HNS : Hid (∀ i u, (cellsS (p, kd, j))[i]? = some u → (wr.alloc (.cells #[.int .i64 (p : Int), .int .i64 ((p : Int) + (z : Int))] 28)).cell? ⟨wr.heap.size, i, none⟩ = some u) := Lib.hid (by
            intro i u hu
            match i, hu with
            | 0, hu => simp [cellsS] at hu; subst hu; simp
            | 1, hu => simp [cellsS, HZ.out] at hu; subst hu; simp)
          have HLE := Lib.hid HV1.out.le
          have MS := Lib.hid (most_step HY.out)
          go_wp2_with ((at_builtin; (refine wpList_app1 _ rfl len_cellsS one_cellsS (by decide) 16 _ rfl (by decide) (.tmp 96) (.tmp 104) 24 28 rfl Try.underlying24 info28 w.heap.size (.slice A2 j c2) (l.take j) rfl HVB.out wr.heap.size 1 (p, kd, j) rfl HNS.out HL2.out HB2.out ?_); intro v2 w2 h2 g2 o2 n2))
          have htk : l.take (j + 1) = l.take j ++ [(p, kd, j)] := by rw [List.take_add_one, HY.out]; rfl
          have F1 : St l (j + 1) w v1 (.int .i64 (if (mostK (PK l) j : Int) < (p : Int) + (z : Int) then (p : Int) + (z : Int) else (mostK (PK l) j : Int))) (.bool (rightK (PK l) (j + 1))) v2 w2 := by
            refine ⟨?_, ?_, ?_, rfl, ?_⟩
            · rw [htk]
              exact ((H1.out.below bel2).alloc _).kept g2 (own_apart ((H1.out.below bel2).alloc (.cells #[.int .i64 (p : Int), .int .i64 ((p : Int) + (z : Int))] 28)) HVB.out (by decide))
            · rw [htk]; exact h2
            · rw [MS.out, HZ.out]
            · exact ((BEL1.out.trans (bel2.mono BEL1.out.size)).alloc (BEL1.out.trans (bel2.mono BEL1.out.size)).size _).grown g2 HB2.out HLE.out
          exact ⟨⟨j + 1, by omega, by go_num, F1⟩, by simp [intOf]; omega⟩
    · obtain rfl : k = n := by omega
      obtain ⟨hv, hv', rfl, rfl, bel⟩ := hst
      rw [List.take_of_length_le (by rw [HLL.out]; exact Nat.le_refl _)] at hv
      obtain ⟨A2, c2, eA2, hrw⟩ := OwnR.form len_cellsL hv
      have HC := Lib.hid (size_any A2 c2 l wr hrw (by rw [HLL.out]; omega) (ok_dl HL.out HPS.out HKS.out hp hn0') (okb_dl HL.out (by omega)))
      unfold SizeP at HC
      rw [HLL.out] at HC eA2
      subst eA2
      obtain ⟨M, hM⟩ : ∃ M, mostK (PK l) k = M := ⟨_, rfl⟩
      rw [hM] at HC ⊢
      have g0 : decide (0 < k) = true := decide_eq_true hn0
      cases hR : rightK (PK l) k with
      | true =>
        rw [hR] at HC
        clear hv hv' hrw hM hR hc hc' hp hk
        go_wp2_with fail
        refine HC.out.mono ?_
        rintro e w1 (⟨-, rfl, hb1⟩ | ⟨hr, -⟩)
        · have F := Lib.hid (bel.trans (hb1.mono bel.size))
          clear hb1
          go_wp2
          go_ret
          exact ⟨rfl, F.out⟩
        · cases hr
      | false =>
        rw [hR] at HC
        clear hv hv' hrw hM hR hc hc' hp hk
        go_wp2_with fail
        refine HC.out.mono ?_
        rintro e w1 (⟨hr, -⟩ | ⟨-, rfl, hb1⟩)
        · cases hr
        · have F := Lib.hid (bel.trans (hb1.mono bel.size))
          clear hb1
          go_wp2
          go_ret
          exact ⟨rfl, F.out⟩

set_option maxHeartbeats 2000000 in
set_option maxRecDepth 100000 in
theorem fnSize_many (b off n c b' off' n' c' : Nat) (ps ks : List Nat) (w : World) (hn : n ≤ 100) (hn0 : 0 < n) (hle : n ≤ c) (hn' : n' ≤ 100) (hn0' : 0 < n') (h20 : 20 < n) (hps : ps.length = n) (hks : ks.length = n') (hp : ∀ z ∈ ps, z < 256) (hk : ∀ z ∈ ks, z < 256)
    (hb : b < w.heap.size) (hb' : b' < w.heap.size) (hc : ∀ k z, ps[k]? = some z → w.cell? ⟨b, off + k, none⟩ = some (.int .u8 (z : Nat))) (hc' : ∀ k z, ks[k]? = some z → w.cell? ⟨b', off' + k, none⟩ = some (.int .u8 (z : Nat))) :
    Calls Try.prog 3 #[.slice (some ⟨b, off, none⟩) n c, .slice (some ⟨b', off', none⟩) n' c'] w fun e w' => e = .returned (.bool true) ∧ Below w.heap.size w w' := by
  obtain ⟨l, hl⟩ : ∃ l, dl ps ks 20 = l := ⟨_, rfl⟩
  have HL := Lib.hid hl
  have hll : l.length = 20 := by rw [← hl]; simp [dl]
  have HPS := Lib.hid hps
  have HKS := Lib.hid hks
  have HLL := Lib.hid hll
  have d1 : decide (2147483647 < (n : Int)) = false := decide_eq_false (by omega)
  have d2 : decide (2147483647 < (n' : Int)) = false := decide_eq_false (by omega)
  have d3 : ((n' : Int) == 0) = false := by simp; omega
  have d4 : decide (100 < (n' : Int)) = false := decide_eq_false (by omega)
  have d5 : decide (100 < (n : Int)) = false := decide_eq_false (by omega)
  clear hl hps hks hll
  go_enter Try.func3, Try.ntmps3
  go_wp2_with fail


  go_loopw [5, 6, 7, 8, 46] (fun v ms rt v' i wr => ∃ k : Nat, k ≤ 20 ∧ i = .int .i64 k ∧ St l k w v ms rt v' wr) (fun _ _ _ _ i _ => 20 - (intOf i).toNat)
  case atStart =>
    have := own_empty cellsS 2 (w.alloc (.cells #[] 27)) w.heap.size 28 (by simp)
    simp only [World.size_alloc] at this
    exact ⟨0, Nat.zero_le _, rfl, ⟨(own_empty cellsL 3 w w.heap.size 27 (Nat.le_refl _)).alloc _, this, rfl, rfl, ((Below.refl _ _).alloc (Nat.le_refl _) _).alloc (by simp) _⟩⟩
  case round =>
    obtain ⟨k, hkn, rfl, hst⟩ := hrel
    by_cases hlt : k < 20
    · obtain ⟨p, hpk⟩ : ∃ p, ps[k]? = some p := ⟨ps[k]'(by have := HPS.out; omega), List.getElem?_eq_getElem _⟩
      have hr0 : k % n' < n' := Nat.mod_lt _ hn0'
      obtain ⟨q, hqk⟩ : ∃ q, ks[k % n']? = some q := ⟨ks[k % n']'(by have := HKS.out; omega), List.getElem?_eq_getElem _⟩
      have e0 := (hst.bel.cell (p := ⟨b, off + k, none⟩) hb).trans (hc k p hpk)
      have e1 := (hst.bel.cell (p := ⟨b', off' + k % n', none⟩) hb').trans (hc' _ q hqk)
      have hp8 := hp p (List.mem_of_getElem? hpk)
      have hq8 := hk q (List.mem_of_getElem? hqk)
      have hy : l[k]? = some (p, q % 8, k) := by
        rw [← HL.out]
        simp [dl, hlt, List.getD_eq_getElem?_getD, hpk, HKS.out, hqk]
      obtain ⟨hv, hv', rfl, rfl, bel⟩ := hst
      have hlk : (l.take k).length = k := by rw [List.length_take, HLL.out]; omega
      obtain ⟨A2, c2, eA2, -⟩ := OwnR.form len_cellsS hv'
      rw [hlk] at eA2
      subst eA2
      have HV := Lib.hid hv
      have HV' := Lib.hid hv'
      have HY := Lib.hid hy
      obtain ⟨r, hr⟩ : ∃ r, k % n' = r := ⟨_, rfl⟩
      obtain ⟨kd, hkd⟩ : ∃ kd, q % 8 = kd := ⟨_, rfl⟩
      obtain ⟨e, he⟩ : ∃ e, kd % 4 = e := ⟨_, rfl⟩
      obtain ⟨z, hz⟩ : ∃ z, sz kd = z := ⟨_, rfl⟩
      have i1 : (k : Int) % (n' : Int) = (r : Int) := by rw [← hr]; simp
      have i2 : (q : Int) % 8 = (kd : Int) := by rw [← hkd]; simp
      have i3 : (kd : Int) % 4 = (e : Int) := by rw [← he]; simp
      have hrn : r < n' := by omega
      have hk8 : kd < 8 := by omega
      have he4 : e < 4 := by omega
      rw [hr] at e1
      clear hpk hqk hv hv' hy hc hc' hp hk hr hr0
      have i4 : wrap64 ((2 : Int) ^ e) = (z : Int) := by rw [← hz]; exact size_wrap kd e he
      have hz8 : z ≤ 8 := by rw [← hz]; exact sz_le kd
      have HZ := Lib.hid hz
      rw [hkd] at HY
      have HNL : Hid (∀ j u, (cellsL (p, kd, k))[j]? = some u → (wr.alloc (.cells #[.int .i64 (p : Int), .int .i64 (kd : Int), .int .u64 (k : Int)] 27)).cell? ⟨wr.heap.size, j, none⟩ = some u) := Lib.hid (by
        intro j u hu
        match j, hu with
        | 0, hu => simp [cellsL] at hu; subst hu; simp
        | 1, hu => simp [cellsL] at hu; subst hu; simp
        | 2, hu => simp [cellsL] at hu; subst hu; simp)
      have HL1 : Hid ((l.take k).length < 4294967296) := Lib.hid (by rw [List.length_take]; omega)
      have hsz := bel.size
      have HB1 : Hid (w.heap.size ≤ (wr.alloc (.cells #[.int .i64 (p : Int), .int .i64 (kd : Int), .int .u64 (k : Int)] 27)).heap.size) := Lib.hid (by simp; omega)
      have HVA := Lib.hid (HV.out.alloc (.cells #[.int .i64 (p : Int), .int .i64 (kd : Int), .int .u64 (k : Int)] 27))
      clear hkd he hz
      go_wp2_with ((at_builtin; (refine wpList_app1 _ rfl len_cellsL one_cellsL (by decide) 24 _ rfl (by decide) (.tmp 63) (.tmp 70) 23 27 rfl Try.underlying23 info27 w.heap.size u5 (l.take k) rfl HVA.out wr.heap.size 1 (p, kd, k) rfl HNL.out HL1.out HB1.out ?_); intro v1 w1 h1 g1 o1 n1))
      have hs1 := g1.size
      simp only [World.size_alloc] at hs1
      have hv1 : OwnR cellsS 2 28 w1 w.heap.size (.slice A2 k c2) (l.take k) := (HV'.out.alloc (.cells #[.int .i64 (p : Int), .int .i64 (kd : Int), .int .u64 (k : Int)] 27)).kept g1 (own_apart HV'.out HV.out (by decide))
      have hrw := hv1.rowAt len_cellsS
      have HV1 := Lib.hid hv1
      have H1 := Lib.hid h1
      have BEL1 := Lib.hid ((bel.alloc bel.size _).grown g1 (by simp; omega) HV.out.le)
      have HLK := Lib.hid hlk
      clear hv1 h1 g1 o1 n1 hlk
      go_loopw [7, 74] (fun rt i w2 => ∃ j : Nat, j ≤ k ∧ i = .int .i64 j ∧ rt = .bool (rr l k (p, kd) j) ∧ Below w1.heap.size w1 w2) (fun _ i _ => k - (intOf i).toNat)
      case atStart => exact ⟨0, Nat.zero_le _, rfl, by simp [rr], Below.refl _ _⟩
      case round =>
        obtain ⟨j, hjk, rfl, rfl, bel2⟩ := hrel
        by_cases hlj : j < k
        · obtain ⟨y, hyj⟩ : ∃ y, (l.take k)[j]? = some y := ⟨(l.take k)[j]'(by have := HLK.out; omega), List.getElem?_eq_getElem _⟩
          obtain ⟨g2, rfl, hg2, hcs⟩ := hrw (by have := HLK.out; omega)
          have s0 := (bel2.cell (p := ⟨g2, j * 2 + 0, none⟩) hg2).trans (hcs j y hyj 0 _ rfl)
          have s1 := (bel2.cell (p := ⟨g2, j * 2 + 1, none⟩) hg2).trans (hcs j y hyj 1 _ rfl)
          rw [Nat.add_zero] at s0
          have hap : apart (p, kd) (y.1, y.2.1) = (decide (p + z ≤ y.1) || decide (y.1 + sz y.2.1 ≤ p)) := by unfold apart; simp only [HZ.out]
          have RS := Lib.hid ((rr_step (x := (p, kd)) hyj).trans (congrArg (rr l k (p, kd) j && ·) hap))
          obtain ⟨t, ht⟩ : ∃ t, y.1 + sz y.2.1 = t := ⟨_, rfl⟩
          have hti : (y.1 : Int) + (sz y.2.1 : Nat) = (t : Int) := by omega
          rw [hti] at s1
          rw [ht] at RS
          obtain ⟨y1, hy1⟩ : ∃ y1, y.1 = y1 := ⟨_, rfl⟩
          rw [hy1] at s0 RS
          obtain ⟨R, hR⟩ : ∃ R, rr l k (p, kd) j = R := ⟨_, rfl⟩
          have HR := Lib.hid hR
          rw [hR]
          clear hcs hyj hap hR ht hti hy1
          cases R with
          | false =>
            have F : Hid (rr l k (p, kd) (j + 1) = false) := Lib.hid (by rw [RS.out, HR.out]; rfl)
            go_wp2_with fail
            exact ⟨⟨j + 1, by omega, by go_num, by rw [F.out], bel2.alloc bel2.size _⟩, by simp [intOf]; omega⟩
          | true =>
            by_cases q1 : p + z ≤ y1
            · have F : Hid (rr l k (p, kd) (j + 1) = true) := Lib.hid (by rw [RS.out, HR.out]; simp [q1])
              have q2 : decide ((p : Int) + (z : Int) ≤ (y1 : Int)) = true := decide_eq_true (by omega)
              go_wp2_with fail
              exact ⟨⟨j + 1, by omega, by go_num, by rw [F.out], bel2.alloc bel2.size _⟩, by simp [intOf]; omega⟩
            · have q2 : decide ((p : Int) + (z : Int) ≤ (y1 : Int)) = false := decide_eq_false (by omega)
              by_cases q3 : t ≤ p
              · have F : Hid (rr l k (p, kd) (j + 1) = true) := Lib.hid (by rw [RS.out, HR.out]; simp [q3])
                have q4 : decide ((t : Int) ≤ (p : Int)) = true := decide_eq_true (by omega)
                go_wp2_with fail
                exact ⟨⟨j + 1, by omega, by go_num, by rw [F.out], bel2.alloc bel2.size _⟩, by simp [intOf]; omega⟩
              · have F : Hid (rr l k (p, kd) (j + 1) = false) := Lib.hid (by rw [RS.out, HR.out]; simp [q1, q3])
                have q4 : decide ((t : Int) ≤ (p : Int)) = false := decide_eq_false (by omega)
                go_wp2_with fail
                exact ⟨⟨j + 1, by omega, by go_num, by rw [F.out], bel2.alloc bel2.size _⟩, by simp [intOf]; omega⟩
        · obtain rfl : j = k := by omega
          have hend : rr l j (p, kd) j = rightK (PK l) (j + 1) := rr_end HY.out HLK.out
          rw [hend]
          clear hend hrw
          have HVB := Lib.hid ((HV1.out.below bel2).alloc (.cells #[.int .i64 (p : Int), .int .i64 ((p : Int) + (z : Int))] 28))
          have HL2 : Hid ((l.take j).length < 4294967296) := HL1
          have HB2 : Hid (w.heap.size ≤ (wr.alloc (.cells #[.int .i64 (p : Int), .int .i64 ((p : Int) + (z : Int))] 28)).heap.size) := Lib.hid (by have := bel2.size; simp; omega)
          have HNS : Hid (∀ i u, (cellsS (p, kd, j))[i]? = some u → (wr.alloc (.cells #[.int .i64 (p : Int), .int .i64 ((p : Int) + (z : Int))] 28)).cell? ⟨wr.heap.size, i, none⟩ = some u) := Lib.hid (by
            intro i u hu
            match i, hu with
            | 0, hu => simp [cellsS] at hu; subst hu; simp
            | 1, hu => simp [cellsS, HZ.out] at hu; subst hu; simp)
          have HLE := Lib.hid HV1.out.le
          have MS := Lib.hid (most_step HY.out)
          go_wp2_with ((at_builtin; (refine wpList_app1 _ rfl len_cellsS one_cellsS (by decide) 16 _ rfl (by decide) (.tmp 96) (.tmp 104) 24 28 rfl Try.underlying24 info28 w.heap.size (.slice A2 j c2) (l.take j) rfl HVB.out wr.heap.size 1 (p, kd, j) rfl HNS.out HL2.out HB2.out ?_); intro v2 w2 h2 g2 o2 n2))
          have htk : l.take (j + 1) = l.take j ++ [(p, kd, j)] := by rw [List.take_add_one, HY.out]; rfl
          have F1 : St l (j + 1) w v1 (.int .i64 (if (mostK (PK l) j : Int) < (p : Int) + (z : Int) then (p : Int) + (z : Int) else (mostK (PK l) j : Int))) (.bool (rightK (PK l) (j + 1))) v2 w2 := by
            refine ⟨?_, ?_, ?_, rfl, ?_⟩
            · rw [htk]
              exact ((H1.out.below bel2).alloc _).kept g2 (own_apart ((H1.out.below bel2).alloc (.cells #[.int .i64 (p : Int), .int .i64 ((p : Int) + (z : Int))] 28)) HVB.out (by decide))
            · rw [htk]; exact h2
            · rw [MS.out, HZ.out]
            · exact ((BEL1.out.trans (bel2.mono BEL1.out.size)).alloc (BEL1.out.trans (bel2.mono BEL1.out.size)).size _).grown g2 HB2.out HLE.out
          exact ⟨⟨j + 1, by omega, by go_num, F1⟩, by simp [intOf]; omega⟩
    · obtain rfl : k = 20 := by omega
      obtain ⟨hv, hv', rfl, rfl, bel⟩ := hst
      rw [List.take_of_length_le (by rw [HLL.out]; exact Nat.le_refl _)] at hv
      obtain ⟨A2, c2, eA2, hrw⟩ := OwnR.form len_cellsL hv
      have HC := Lib.hid (size_any A2 c2 l wr hrw (by rw [HLL.out]; omega) (ok_dl HL.out HPS.out HKS.out hp hn0') (okb_dl HL.out (by omega)))
      unfold SizeP at HC
      rw [HLL.out] at HC eA2
      subst eA2
      obtain ⟨M, hM⟩ : ∃ M, mostK (PK l) 20 = M := ⟨_, rfl⟩
      rw [hM] at HC ⊢
      cases hR : rightK (PK l) 20 with
      | true =>
        rw [hR] at HC
        clear hv hv' hrw hM hR hc hc' hp hk
        go_wp2_with fail
        refine HC.out.mono ?_
        rintro e w1 (⟨-, rfl, hb1⟩ | ⟨hr, -⟩)
        · have F := Lib.hid (bel.trans (hb1.mono bel.size))
          clear hb1
          go_wp2
          go_ret
          exact ⟨rfl, F.out⟩
        · cases hr
      | false =>
        rw [hR] at HC
        clear hv hv' hrw hM hR hc hc' hp hk
        go_wp2_with fail
        refine HC.out.mono ?_
        rintro e w1 (⟨hr, -⟩ | ⟨-, rfl, hb1⟩)
        · cases hr
        · have F := Lib.hid (bel.trans (hb1.mono bel.size))
          clear hb1
          go_wp2
          go_ret
          exact ⟨rfl, F.out⟩

end Go.Proofs.YtjmmfhgdjndabaaRR
