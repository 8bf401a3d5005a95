/- FnSize: one datum added where it lies over no other one, refused where it does. Conditions: places up to 1000, kinds below eight. -/
import Derived.Test.YtjmmfhgdjndabaaRRSizeB
import Derived.LoopTactic
namespace Go.Proofs.YtjmmfhgdjndabaaRR
open Go.RowKit

/-- Data at small places, of known kinds. -/
def OkD (l : List (Nat × Nat × Nat)) : Prop := ∀ y ∈ l, y.1 ≤ 1000 ∧ y.2.1 < 8

theorem error_any (s : ByteArray) (w : World) :
    Calls Try.prog 16 #[.string s] w fun e w' => (∃ t u, e = .returned (.iface t u)) ∧ Below w.heap.size w w' := by
  go_enter Try.func16, Try.ntmps16
  go_wp2
  go_ret
  exact ⟨⟨_, _, rfl⟩, (Below.refl _ _).alloc (Nat.le_refl _) _⟩

/-- What AddDatum leaves: an error where the datum lies over another one; else one datum more. -/
def AddP (G B : Nat) (l : List (Nat × Nat × Nat)) (x : Nat × Nat × Nat) (M : Int) (w : World) (e : Ending) (w' : World) : Prop :=
  ((l.all fun y => apart (x.1, x.2.1) (y.1, y.2.1)) = true ∧ e = .returned .nilIface ∧ Added G B w w' (l ++ [x]) M) ∨
  ((l.all fun y => apart (x.1, x.2.1) (y.1, y.2.1)) = false ∧ (∃ t u, e = .returned (.iface t u)) ∧ Below B w w')

set_option maxRecDepth 100000 in
theorem addDatum_any (G B : Nat) (v : Value) (m : Int) (l : List (Nat × Nat × Nat)) (p kind b : Nat) (hk : kind < 8) (hp : p ≤ 1000) (w : World) (hG : IsG G w v m) (ho : OwnR cellsD 2 54 w B v l) (hB : B ≤ G) (hl : l.length < 1000) (hok : OkD l)
    (n M : Int) (hn : Hid (n = (p : Int) + (sz kind : Nat))) (hM : Hid (M = if m < n then n else m)) :
    Calls Try.prog 10 #[.pointer (some ⟨G, 0, none⟩), .agg #[.int .i64 (p : Int), cv kind b]] w (AddP G B l (p, kind, b) M w) := by
  have HO := fun (y : Nat × Nat × Nat) (h : y.1 ≤ 1000 ∧ y.2.1 < 8) (W : World) => overlaps_any kind y.2.1 hk h.2 p y.1 b y.2.2 W hp h.1
  have HADD := fun (W : World) (h1 : IsG G W v m) (h2 : OwnR cellsD 2 54 W B v l) => add_any G B v m l p kind b hk hp W h1 h2 hB (by omega) n M hn hM
  have HO' := Lib.hid HO
  have HADD' := Lib.hid HADD
  clear HO HADD
  have HG := Lib.hid hG
  obtain ⟨c3, c4, f3, f4, ne, lt⟩ := hG
  have HOW := Lib.hid ho
  obtain ⟨A, cc, rfl, hrow⟩ := OwnR.form len_cellsD ho
  obtain ⟨tc, uc, hc⟩ : ∃ t u, cv kind b = .iface t u := ⟨_, _, rfl⟩
  rw [hc] at HO' HADD' ⊢
  clear hc ho c4 f3 f4 ne
  go_enter Try.func10, Try.ntmps10
  go_wp2_with fail
  go_loopw [12] (fun i wr => ∃ k : Nat, k ≤ l.length ∧ i = .int .i64 k ∧ Below w.heap.size w wr ∧ wr.cell? ⟨w.heap.size, 0, none⟩ = some (.int .i64 (p : Int)) ∧ wr.cell? ⟨w.heap.size, 1, none⟩ = some (.iface tc uc) ∧ w.heap.size < wr.heap.size ∧ ((l.take k).all fun y => apart (p, kind) (y.1, y.2.1)) = true) (fun i _ => l.length - (intOf i).toNat)
  case atStart =>
    exact ⟨0, Nat.zero_le _, rfl, (Below.refl _ _).alloc (Nat.le_refl _) _, by simp, by simp, by simp, by simp⟩
  case round =>
    obtain ⟨k, hk', rfl, bel, k0, k1, hsz, hall⟩ := hrel
    by_cases hlt : k < l.length
    · obtain ⟨y, hy⟩ : ∃ y, l[k]? = some y := ⟨l[k]'hlt, List.getElem?_eq_getElem hlt⟩
      obtain ⟨g, rfl, hgl, hcs⟩ := hrow (by omega)
      have e0 := (bel.cell (p := ⟨g, k * 2 + 0, none⟩) hgl).trans (hcs k y hy 0 _ rfl)
      have e1 := (bel.cell (p := ⟨g, k * 2 + 1, none⟩) hgl).trans (hcs k y hy 1 _ rfl)
      rw [Nat.add_zero] at e0
      have hyk := hok y (List.mem_of_getElem? hy)
      have HC2 := Lib.hid (HO'.out y hyk)
      have HALL := Lib.hid hall
      have HY := Lib.hid hy
      clear hcs hall hy hyk hok
      obtain ⟨t', u', hc'⟩ : ∃ t u, cv y.2.1 (y.2.2 : Int) = .iface t u := ⟨_, _, rfl⟩
      rw [hc'] at HC2 e1
      clear hc'
      by_cases ha : apart (p, kind) (y.1, y.2.1) = true
      · rw [ha] at HC2
        have HA := Lib.hid ha
        clear ha
        go_wp2_with fail
        refine (HC2.out _).mono ?_
        rintro e w1 ⟨rfl, hb1⟩
        have hb2 := (bel.alloc bel.size (.cells #[.int .i64 (y.1 : Int), .iface t' u'] 54)).trans (hb1.mono (by have := bel.size; simp; omega))
        have j0 := (hb1.cell (p := ⟨w.heap.size, 0, none⟩) (by simp; omega)).trans ((World.cell?_alloc_lt wr _ ⟨w.heap.size, 0, none⟩ hsz).trans k0)
        have j1 := (hb1.cell (p := ⟨w.heap.size, 1, none⟩) (by simp; omega)).trans ((World.cell?_alloc_lt wr _ ⟨w.heap.size, 1, none⟩ hsz).trans k1)
        have hsz1 : w.heap.size < w1.heap.size := by have := hb1.size; simp at this; omega
        have F : Hid (((l.take (k + 1)).all fun y => apart (p, kind) (y.1, y.2.1)) = true) := Lib.hid (by
          rw [List.take_add_one, HY.out, List.all_append, HALL.out]
          simp [HA.out])
        clear hb1
        go_wp2_with fail
        go_roundw
        case rel => exact ⟨k + 1, by omega, by go_num, hb2, j0, j1, hsz1, F.out⟩
        case measure => simp [intOf]; omega
      · have ha' : apart (p, kind) (y.1, y.2.1) = false := by simpa using ha
        rw [ha'] at HC2
        have HA := Lib.hid ha'
        clear ha ha'
        go_wp2_with fail
        refine (HC2.out _).mono ?_
        rintro e w1 ⟨rfl, hb1⟩
        have hb2 := (bel.alloc bel.size (.cells #[.int .i64 (y.1 : Int), .iface t' u'] 54)).trans (hb1.mono (by have := bel.size; simp; omega))
        have HBW : Hid (B ≤ w.heap.size) := Lib.hid (by omega)
        clear hb1
        go_wp2_with fail
        refine (error_any _ _).mono ?_
        rintro e w2 ⟨⟨t, u, rfl⟩, hb3⟩
        have HB3 := Lib.hid ((hb2.mono HBW.out).trans (hb3.mono (Nat.le_trans HBW.out hb2.size)))
        clear hb3
        go_wp2
        go_ret
        refine .inr ⟨?_, ⟨t, u, rfl⟩, HB3.out⟩
        rw [List.all_eq_false]
        exact ⟨y, List.mem_of_getElem? HY.out, by rw [HA.out]; simp⟩
    · have hkl : k = l.length := by omega
      subst hkl
      rw [List.take_of_length_le (Nat.le_refl _)] at hall
      have HALL := Lib.hid hall
      have hG1 : IsG G wr (.slice A l.length cc) m := ⟨(bel.cell (p := ⟨G, 3, none⟩) HG.out.lt).trans HG.out.c3, (bel.cell (p := ⟨G, 4, none⟩) HG.out.lt).trans HG.out.c4, (bel.frozen (p := ⟨G, 3, none⟩) HG.out.lt).trans HG.out.f3, (bel.frozen (p := ⟨G, 4, none⟩) HG.out.lt).trans HG.out.f4, HG.out.ne, Nat.lt_of_lt_of_le HG.out.lt bel.size⟩
      have HADD := Lib.hid (HADD'.out wr hG1 (HOW.out.below bel))
      have HBB := Lib.hid (bel.mono (show B ≤ w.heap.size by omega))
      clear hall hG1
      go_wp2_with fail
      refine HADD.out.mono ?_
      rintro e w1 ⟨rfl, h1⟩
      go_wp2
      go_ret
      exact .inl ⟨HALL.out, rfl, ⟨h1.ex, HBB.out.trans h1.bel⟩⟩

end Go.Proofs.YtjmmfhgdjndabaaRR
