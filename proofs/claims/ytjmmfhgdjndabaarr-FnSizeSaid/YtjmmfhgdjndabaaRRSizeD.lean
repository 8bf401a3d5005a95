/- FnSize: the thin package's section of data out of a list, and its size. Conditions: places up to 1000, kinds below eight, bits below 128. -/
import Derived.Test.YtjmmfhgdjndabaaRRSizeC
namespace Go.Proofs.YtjmmfhgdjndabaaRR
open Go.RowKit

theorem newDatum_any (p : Int) (t : TypeId) (u : Value) (w : World) :
    Calls Try.prog 11 #[.int .i64 p, .iface t u] w fun e w' => e = .returned (.agg #[.int .i64 p, .iface t u]) ∧ Below w.heap.size w w' := by
  go_enter Try.func11, Try.ntmps11
  go_wp2
  refine bodyPost_ret (v := .agg #[.int .i64 p, .iface t u]) (by simp [results, Try.results11, go_sem]) rfl ⟨rfl, ?_⟩
  repeat (first | exact Below.refl _ _ | refine Below.setCell ?_ (Nat.le_refl _) _ | refine Below.alloc ?_ (Nat.le_refl _) _)

/-- The cells of a datum as the thin package has it. -/
def cellsL (d : Nat × Nat × Nat) : List Value := [.int .i64 (d.1 : Int), .int .i64 (d.2.1 : Int), .int .u64 (d.2.2 : Int)]
theorem len_cellsL (d : Nat × Nat × Nat) : (cellsL d).length = 3 := rfl
theorem one_cellsL (d : Nat × Nat × Nat) : ∀ u ∈ cellsL d, u.oneCell' = true := by
  intro u hu
  simp [cellsL] at hu
  rcases hu with rfl | rfl | rfl <;> rfl

/-- Places and kinds alone. -/
def PK (l : List (Nat × Nat × Nat)) : List (Nat × Nat) := l.map fun y => (y.1, y.2.1)

theorem right_step {l : List (Nat × Nat × Nat)} {k : Nat} {x : Nat × Nat × Nat} (hx : l[k]? = some x) : rightK (PK l) (k + 1) = (rightK (PK l) k && (l.take k).all fun y => apart (x.1, x.2.1) (y.1, y.2.1)) := by
  have e : (PK l).getD k (0, 0) = (x.1, x.2.1) := by simp [PK, List.getD_eq_getElem?_getD, hx]
  rw [rightK, e]
  unfold PK
  rw [← List.map_take, List.all_map]
  rfl
theorem most_step {l : List (Nat × Nat × Nat)} {k : Nat} {x : Nat × Nat × Nat} (hx : l[k]? = some x) : (mostK (PK l) (k + 1) : Int) = if (mostK (PK l) k : Int) < (x.1 : Int) + (sz x.2.1 : Nat) then (x.1 : Int) + (sz x.2.1 : Nat) else (mostK (PK l) k : Int) := by
  have e : (PK l).getD k (0, 0) = (x.1, x.2.1) := by simp [PK, List.getD_eq_getElem?_getD, hx]
  rw [mostK, e]
  simp only []
  split <;> omega

/-- Bits below 128. -/
def OkB (l : List (Nat × Nat × Nat)) : Prop := ∀ y ∈ l, y.2.2 < 128

/-- What the section of a list is. -/
def GlobP (l : List (Nat × Nat × Nat)) (w : World) (e : Ending) (w' : World) : Prop :=
  (rightK (PK l) l.length = true ∧ (∃ G, e = .returned (.tuple #[.pointer (some ⟨G, 0, none⟩), .bool true]) ∧ w'.cell? ⟨G, 4, none⟩ = some (.int .i64 (mostK (PK l) l.length : Nat))) ∧ Below w.heap.size w w') ∨
  (rightK (PK l) l.length = false ∧ e = .returned (.tuple #[.pointer none, .bool false]) ∧ Below w.heap.size w w')

theorem IsG.below {G : Nat} {w w' : World} {v : Value} {m : Int} (h : IsG G w v m) (hb : Below w.heap.size w w') : IsG G w' v m :=
  ⟨(hb.cell (p := ⟨G, 3, none⟩) h.lt).trans h.c3, (hb.cell (p := ⟨G, 4, none⟩) h.lt).trans h.c4, (hb.frozen (p := ⟨G, 3, none⟩) h.lt).trans h.f3, (hb.frozen (p := ⟨G, 4, none⟩) h.lt).trans h.f4, h.ne, Nat.lt_of_lt_of_le h.lt hb.size⟩

/-- The section behind k data of the list. -/
def Made (l : List (Nat × Nat × Nat)) (k G B : Nat) (w : World) : Prop := (∃ v, IsG G w v (mostK (PK l) k : Nat) ∧ OwnR cellsD 2 54 w B v (l.take k)) ∧ rightK (PK l) k = true

theorem made_at (l : List (Nat × Nat × Nat)) (B : Nat) (w : World) {x y z : Value} : Made l 0 w.heap.size B (w.alloc (.cells #[x, y, z, .slice none 0 0, .int .i64 0] 44)) := by
  refine ⟨⟨.slice none 0 0, ⟨?_, ?_, ?_, ?_, ?_, ?_⟩, OwnR.nil _ _ _ _ _⟩, rfl⟩
  · simp
  · simp [mostK]
  · simp
  · simp
  · simp [Value.ownBlock]
  · simp
theorem made_start (l : List (Nat × Nat × Nat)) (w : World) {x y z : Value} {cs : Array Value} {t t' : TypeId} {cs' : Array Value} : Made l 0 (w.heap.size + 1 + 1) w.heap.size (((w.alloc (.cells cs t)).alloc (.cells cs' t')).alloc (.cells #[x, y, z, .slice none 0 0, .int .i64 0] 44)) := by
  have h : w.heap.size + 1 + 1 = ((w.alloc (.cells cs t)).alloc (.cells cs' t')).heap.size := by simp
  rw [h]
  exact made_at l w.heap.size _

set_option maxRecDepth 100000 in
theorem global_any (A : Option Addr) (c : Nat) (l : List (Nat × Nat × Nat)) (w : World) (hrow : RowR cellsL 3 w A l) (hl : l.length < 1000) (hok : OkD l) (hb : OkB l) :
    Calls Try.prog 6 #[.agg #[.string { data := #[103] }, .bool false, .int .i64 0, .slice A l.length c]] w (GlobP l w) := by
  have HP := Lib.hid hok
  have HBB := Lib.hid hb
  clear hok hb
  go_enter Try.func6, Try.ntmps6
  go_wp2_with fail
  refine (newGlobal_any _ _ _).mono ?_
  rintro e w1 ⟨rfl, rfl⟩
  go_wp2_with fail
  go_loopw [23] (fun i wr => ∃ k : Nat, k ≤ l.length ∧ i = .int .i64 k ∧ Made l k (w.heap.size + 1 + 1) w.heap.size wr ∧ Below w.heap.size w wr) (fun i _ => l.length - (intOf i).toNat)
  case atStart =>
    exact ⟨0, Nat.zero_le _, rfl, made_start l w, (((Below.refl _ _).alloc (Nat.le_refl _) _).alloc (by simp) _).alloc (by simp; omega) _⟩
  case round =>
    obtain ⟨k, hk', rfl, hmade, bel⟩ := hrel
    by_cases hlt : k < l.length
    · obtain ⟨y, hy⟩ : ∃ y, l[k]? = some y := ⟨l[k]'hlt, List.getElem?_eq_getElem hlt⟩
      obtain ⟨g, rfl, hgl, hcs⟩ := hrow (by omega)
      have e0 := (bel.cell (p := ⟨g, k * 3 + 0, none⟩) hgl).trans (hcs k y hy 0 _ rfl)
      have e1 := (bel.cell (p := ⟨g, k * 3 + 1, none⟩) hgl).trans (hcs k y hy 1 _ rfl)
      have e2 := (bel.cell (p := ⟨g, k * 3 + 2, none⟩) hgl).trans (hcs k y hy 2 _ rfl)
      rw [Nat.add_zero] at e0
      have hyk := HP.out y (List.mem_of_getElem? hy)
      have hyb := HBB.out y (List.mem_of_getElem? hy)
      have hmem : ∀ z ∈ l.take k, z.1 ≤ 1000 ∧ z.2.1 < 8 := fun z hz => HP.out z (List.mem_of_mem_take hz)
      obtain ⟨⟨v, hG, ho⟩, hr⟩ := hmade
      have HCON := Lib.hid (fun W => constant_any y.2.1 hyk.2 (y.2.2 : Int) W (by omega) (by omega))
      have HADD := Lib.hid (fun (W : World) (h1 : IsG (w.heap.size + 1 + 1) W v (mostK (PK l) k : Nat)) (h2 : OwnR cellsD 2 54 W w.heap.size v (l.take k)) =>
        addDatum_any (w.heap.size + 1 + 1) w.heap.size v (mostK (PK l) k : Nat) (l.take k) y.1 y.2.1 y.2.2 hyk.2 hyk.1 W h1 h2 (by omega) (by rw [List.length_take]; omega) hmem _ _ (Lib.hid rfl) (Lib.hid rfl))
      rw [← most_step hy] at HADD
      have RS := Lib.hid (right_step hy)
      have HR := Lib.hid hr
      have HY := Lib.hid hy
      have HG := Lib.hid hG
      have HO := Lib.hid ho
      have g0 : decide ((y.1 : Int) < -1) = false := decide_eq_false (by omega)
      have g1 : decide (1048576 < (y.1 : Int)) = false := decide_eq_false (by omega)
      have g2 : decide ((y.1 : Int) < 0) = false := decide_eq_false (by omega)
      obtain ⟨tc, uc, hc⟩ : ∃ t u, cv y.2.1 (y.2.2 : Int) = .iface t u := ⟨_, _, rfl⟩
      rw [hc] at HCON HADD
      clear hcs hy hyb hmem hr hG ho hc
      go_wp2_with fail
      refine (HCON.out _).mono ?_
      rintro e w1 ⟨rfl, rfl⟩
      go_wp2_with fail
      refine (newDatum_any _ _ _ _).mono ?_
      rintro e w2 ⟨rfl, hb2⟩
      have hb3 : Below w.heap.size w w2 := (bel.alloc bel.size _).trans (hb2.mono (by have := bel.size; simp; omega))
      have hbw : Below wr.heap.size wr w2 := ((Below.refl _ _).alloc (Nat.le_refl _) _).trans (hb2.mono (by simp))
      have HADD2 := Lib.hid (HADD.out w2 (HG.out.below hbw) (HO.out.below hbw))
      clear hb2 HADD
      go_wp2_with fail
      refine HADD2.out.mono ?_
      rintro e w3 (⟨hall, rfl, hadd⟩ | ⟨hall, ⟨t, u, rfl⟩, hb4⟩)
      · obtain ⟨hex, hb4⟩ := hadd
        have F1 : Hid (Made l (k + 1) (w.heap.size + 1 + 1) w.heap.size w3) := Lib.hid (by
          obtain ⟨v', h1, h2⟩ := hex
          refine ⟨⟨v', h1, ?_⟩, ?_⟩
          · rw [List.take_add_one, HY.out]; exact h2
          · rw [RS.out, HR.out, hall]; rfl)
        have F2 := Lib.hid (hb3.trans hb4)
        clear hall hex hb4
        go_wp2_with fail
        go_roundw
        case rel => exact ⟨k + 1, by omega, by go_num, F1.out, F2.out⟩
        case measure => simp [intOf]; omega
      · have F1 : Hid (rightK (PK l) l.length = false) := Lib.hid (rightK_no _ (k + 1) l.length (by omega) (by rw [RS.out, hall, Bool.and_false]))
        have F2 := Lib.hid (hb3.trans hb4)
        clear hall hb4
        go_wp2_with fail
        go_ret2
        exact .inr ⟨F1.out, rfl, F2.out⟩
    · have hkl : k = l.length := by omega
      subst hkl
      obtain ⟨⟨v, hG, ho⟩, hr⟩ := hmade
      have HG := Lib.hid hG
      have HR := Lib.hid hr
      clear hG ho hr
      go_wp2_with fail
      go_ret2
      exact .inl ⟨HR.out, ⟨_, rfl, HG.out.c4⟩, bel⟩

/-- What the size of a list is. -/
def SizeP (l : List (Nat × Nat × Nat)) (w : World) (e : Ending) (w' : World) : Prop :=
  (rightK (PK l) l.length = true ∧ e = .returned (.tuple #[.int .i64 (mostK (PK l) l.length : Nat), .bool true]) ∧ Below w.heap.size w w') ∨
  (rightK (PK l) l.length = false ∧ e = .returned (.tuple #[.int .i64 0, .bool false]) ∧ Below w.heap.size w w')

theorem size_any (A : Option Addr) (c : Nat) (l : List (Nat × Nat × Nat)) (w : World) (hrow : RowR cellsL 3 w A l) (hl : l.length < 1000) (hok : OkD l) (hb : OkB l) :
    Calls Try.prog 4 #[.slice A l.length c] w (SizeP l w) := by
  have HC := Lib.hid (global_any A c l w hrow hl hok hb)
  clear hrow hok hb
  go_enter Try.func4, Try.ntmps4
  go_wp2_with fail
  refine HC.out.mono ?_
  rintro e w1 (⟨hr, ⟨G, rfl, c4⟩, hb1⟩ | ⟨hr, rfl, hb1⟩)
  · have HR := Lib.hid hr
    have HB := Lib.hid hb1
    clear hr hb1
    go_wp2
    go_ret2
    exact .inl ⟨HR.out, rfl, HB.out⟩
  · have HR := Lib.hid hr
    have HB := Lib.hid hb1
    clear hr hb1
    go_wp2
    go_ret2
    exact .inr ⟨HR.out, rfl, HB.out⟩

end Go.Proofs.YtjmmfhgdjndabaaRR
