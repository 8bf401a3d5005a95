/- Walks of the thin package's functions on sets. Conditions: lengths as stated. -/
import Derived.Test.YtmonokfibldghaaLoops
namespace Go.Proofs.Ytmonokfibldghaa
open Go.RowKit Go.Maps Pl

/-- SetOf. -/
theorem setOfP_any (B : Nat) (A : Option Addr) (n c : Nat) (l : PL) (w : World) (hr : RowP w B A l) (hB : B ≤ w.heap.size) (hln : l.length = n) (hn : n < 2147483648) (hl : Bd l) :
    Calls Try.prog 24 #[.slice A n c] w fun e w' => ∃ v, e = .returned v ∧ OwnP 43 w' w.heap.size v (setL l) ∧ Below w.heap.size w w' := by
  go_enter Try.func24, Try.ntmps24
  go_wp2_with fail
  refine (set_any B A n c l _ hr hB hln hn hl).mono ?_
  rintro e w1 ⟨rfl, hs1, hb1⟩
  have hz1 := hb1.size
  go_wp2_with fail
  refine (told_any _ n _ _ hs1 hn (ok_setL hl).1).mono ?_
  rintro e w2 ⟨v, rfl, h2, hb2⟩
  have HO := Lib.hid (h2.base hz1)
  have HB := Lib.hid (hb1.trans (hb2.mono hz1))
  clear h2 hb2
  go_wp2
  go_ret
  exact ⟨_, rfl, HO.out, HB.out⟩

/-- SetAdd. -/
theorem setAdd_any (B : Nat) (A : Option Addr) (n c : Nat) (l : PL) (i m : Nat) (ch : Bool) (w : World) (hr : RowP w B A l) (hB : B ≤ w.heap.size) (hln : l.length = n) (hn : n < 1073741824) (hl : Bd l) (hi : i < 4294967296) (hm : m < 65536)
    (hch : decide (¬ getL (setL l) i &&& m = m) = ch) :
    Calls Try.prog 18 #[.slice A n c, .int .u32 i, .int .u16 m] w fun e w' => ∃ v, e = .returned (.tuple #[v, .bool ch]) ∧ OwnP 43 w' w.heap.size v (addL (setL l) i m) ∧ Below w.heap.size w w' := by
  have hok := ok_setL hl
  have HCH := Lib.hid hch
  clear hch
  go_enter Try.func18, Try.ntmps18
  go_wp2_with fail
  refine (set_any B A n c l _ hr hB hln (by omega) hl).mono ?_
  rintro e w1 ⟨rfl, hs1, hb1⟩
  have hz1 := hb1.size
  have HC := Lib.hid (add_any w.heap.size n (setL l) i m w1 hs1 (by omega) hok.2.2 hi hm)
  rw [HCH.out] at HC
  go_wp2_with fail
  refine HC.out.mono ?_
  rintro e w2 ⟨rfl, hs2, hg2⟩
  have hb2 := hb1.grown hg2 hz1 (fun j hj => by cases hj; exact Nat.le_refl _)
  have hz2 := hb2.size
  go_wp2_with fail
  refine (told_any _ (n + 1) _ _ hs2 (by omega) (ok_add hok hi hm).1).mono ?_
  rintro e w3 ⟨v, rfl, h3, hb3⟩
  have HO := Lib.hid (h3.base hz2)
  have HB := Lib.hid (hb2.trans (hb3.mono hz2))
  clear h3 hb3
  go_wp2
  go_ret2
  exact ⟨_, rfl, HO.out, HB.out⟩

/-- SetDiscard. -/
theorem setDisc_any (B : Nat) (A : Option Addr) (n c : Nat) (l : PL) (i m : Nat) (ch : Bool) (w : World) (hr : RowP w B A l) (hB : B ≤ w.heap.size) (hln : l.length = n) (hn : n < 1073741824) (hl : Bd l) (hi : i < 4294967296) (hm : m < 65536)
    (hch : decide (¬ getL (setL l) i &&& m = 0) = ch) :
    Calls Try.prog 22 #[.slice A n c, .int .u32 i, .int .u16 m] w fun e w' => ∃ v, e = .returned (.tuple #[v, .bool ch]) ∧ OwnP 43 w' w.heap.size v (discL (setL l) i m) ∧ Below w.heap.size w w' := by
  have hok := ok_setL hl
  have HCH := Lib.hid hch
  clear hch
  go_enter Try.func22, Try.ntmps22
  go_wp2_with fail
  refine (set_any B A n c l _ hr hB hln (by omega) hl).mono ?_
  rintro e w1 ⟨rfl, hs1, hb1⟩
  have hz1 := hb1.size
  have HC := Lib.hid (disc_any w.heap.size n (setL l) i m w1 hs1 (by omega) hok.1 hok.2.2 hi hm)
  rw [HCH.out] at HC
  go_wp2_with fail
  refine HC.out.mono ?_
  rintro e w2 ⟨rfl, hs2, hg2⟩
  have hb2 := hb1.grown hg2 hz1 (fun j hj => by cases hj; exact Nat.le_refl _)
  have hz2 := hb2.size
  go_wp2_with fail
  refine (told_any _ (n + 1) _ _ hs2 (by omega) (ok_disc (m := m) hok hi).1).mono ?_
  rintro e w3 ⟨v, rfl, h3, hb3⟩
  have HO := Lib.hid (h3.base hz2)
  have HB := Lib.hid (hb2.trans (hb3.mono hz2))
  clear h3 hb3
  go_wp2
  go_ret2
  exact ⟨_, rfl, HO.out, HB.out⟩

/-- SetUpdate. -/
theorem setUpdate_any (B : Nat) (A : Option Addr) (n c : Nat) (l : PL) (A' : Option Addr) (n' c' : Nat) (l' : PL) (w : World) (hr : RowP w B A l) (hr' : RowP w B A' l') (hB : B ≤ w.heap.size)
    (hln : l.length = n) (hn : n < 1073741824) (hl : Bd l) (hln' : l'.length = n') (hn' : n' < 1073741824) (hl' : Bd l') :
    Calls Try.prog 25 #[.slice A n c, .slice A' n' c'] w fun e w' => ∃ v ch S, e = .returned (.tuple #[v, .bool ch]) ∧ (ch = true ↔ ∃ p ∈ setL l', ¬ getL (setL l) p.1 &&& p.2 = p.2) ∧ Ok S ∧ (∀ j, getL S j = getL (setL l) j ||| getL (setL l') j) ∧ OwnP 43 w' w.heap.size v S ∧ Below w.heap.size w w' := by
  go_enter Try.func25, Try.ntmps25
  go_wp2_with fail
  refine (set_any B A n c l _ hr hB hln (by omega) hl).mono ?_
  rintro e w1 ⟨rfl, hs1, hb1⟩
  have hz1 := hb1.size
  have hlt1 := hs1.lt
  go_wp2_with fail
  refine (set_any B A' n' c' l' _ (hr'.below (hb1.mono hB)) (by omega) hln' (by omega) hl').mono ?_
  rintro e w2 ⟨rfl, hs2, hb2⟩
  have hs1' := hs1.below hb2
  have hb12 := hb1.trans (hb2.mono hz1)
  have hz2 := hb12.size
  go_wp2_with fail
  refine (update_any _ n _ n' _ _ _ hs1' hs2 (by omega) (by omega) (ok_setL hl) (ok_setL hl')).mono ?_
  rintro e w3 ⟨ch, S, rfl, hch, hS, hget, hs3, hg3⟩
  have hb3 := hb12.grown hg3 hz2 (fun j hj => by cases hj; exact Nat.le_refl _)
  have hz3 := hb3.size
  have HCH := Lib.hid hch
  have HG := Lib.hid hget
  clear hch hget
  go_wp2_with fail
  refine (told_any _ (n + n') _ _ hs3 (by omega) hS.1).mono ?_
  rintro e w4 ⟨v, rfl, h4, hb4⟩
  have HO := Lib.hid (h4.base hz3)
  have HB := Lib.hid (hb3.trans (hb4.mono hz3))
  clear h4 hb4
  go_wp2
  go_ret2
  exact ⟨_, ch, S, rfl, HCH.out, hS, HG.out, HO.out, HB.out⟩

/-- Difference: a new set. -/
theorem diff_any (b1 n1 b2 n2 : Nat) (L T : PL) (w : World) (hs : IsM 68 w b1 n1 L) (ht : IsM 68 w b2 n2 T) (hn : n1 + n2 < 2147483648) (hL : Ok L) (hT : Ok T) :
    Calls Try.prog 36 #[.map (some b1), .map (some b2)] w fun e w' => ∃ S, e = .returned (.map (some w.heap.size)) ∧ Ok S ∧ (∀ j, getL S j = andn (getL L j) (getL T j)) ∧ IsM 68 w' w.heap.size (n1 + n2) S ∧ Below w.heap.size w w' := by
  have hlt2 := ht.lt
  go_enter Try.func36, Try.ntmps36
  go_wp2_with fail
  refine (clone_any b1 n1 L _ hs (by omega) hL).mono ?_
  rintro e w1 ⟨rfl, hs1, hb1⟩
  have hz1 := hb1.size
  have ht1 := ht.below hb1
  go_wp2_with fail
  refine (diffUpdate_any _ n1 b2 n2 L T _ hs1 ht1 (by omega) hn hL hT).mono ?_
  rintro e w2 ⟨c, S, rfl, hS, hget, hs2, hg2⟩
  have HG := Lib.hid hget
  have HB := Lib.hid (hb1.grown hg2 hz1 (fun j hj => by cases hj; exact Nat.le_refl _))
  clear hget hg2
  go_wp2
  go_ret
  exact ⟨S, rfl, hS, HG.out, hs2, HB.out⟩

/-- SetDifference. -/
theorem setDiff_any (B : Nat) (A : Option Addr) (n c : Nat) (l : PL) (A' : Option Addr) (n' c' : Nat) (l' : PL) (w : World) (hr : RowP w B A l) (hr' : RowP w B A' l') (hB : B ≤ w.heap.size)
    (hln : l.length = n) (hn : n < 1073741824) (hl : Bd l) (hln' : l'.length = n') (hn' : n' < 1073741824) (hl' : Bd l') :
    Calls Try.prog 26 #[.slice A n c, .slice A' n' c'] w fun e w' => ∃ v S, e = .returned v ∧ Ok S ∧ (∀ j, getL S j = andn (getL (setL l) j) (getL (setL l') j)) ∧ OwnP 43 w' w.heap.size v S ∧ Below w.heap.size w w' := by
  go_enter Try.func26, Try.ntmps26
  go_wp2_with fail
  refine (set_any B A n c l _ hr hB hln (by omega) hl).mono ?_
  rintro e w1 ⟨rfl, hs1, hb1⟩
  have hz1 := hb1.size
  go_wp2_with fail
  refine (set_any B A' n' c' l' _ (hr'.below (hb1.mono hB)) (by omega) hln' (by omega) hl').mono ?_
  rintro e w2 ⟨rfl, hs2, hb2⟩
  have hs1' := hs1.below hb2
  have hb12 := hb1.trans (hb2.mono hz1)
  have hz2 := hb12.size
  go_wp2_with fail
  refine (diff_any _ n _ n' _ _ _ hs1' hs2 (by omega) (ok_setL hl) (ok_setL hl')).mono ?_
  rintro e w3 ⟨S, rfl, hS, hget, hs3, hb3⟩
  have hb13 := hb12.trans (hb3.mono hz2)
  have hz3 := hb13.size
  have HG := Lib.hid hget
  clear hget
  go_wp2_with fail
  refine (told_any _ (n + n') _ _ hs3 (by omega) hS.1).mono ?_
  rintro e w4 ⟨v, rfl, h4, hb4⟩
  have HO := Lib.hid (h4.base hz3)
  have HB := Lib.hid (hb13.trans (hb4.mono hz3))
  clear h4 hb4
  go_wp2
  go_ret
  exact ⟨_, S, rfl, hS, HG.out, HO.out, HB.out⟩

/-- SetOfKind. -/
theorem setOfKind_any (B : Nat) (A : Option Addr) (n c : Nat) (l : PL) (k : Nat) (w : World) (hr : RowP w B A l) (hB : B ≤ w.heap.size) (hln : l.length = n) (hn : n < 2147483648) (hl : Bd l) (hk : k ≤ 255) :
    Calls Try.prog 23 #[.slice A n c, .int .i64 k] w fun e w' => ∃ v, e = .returned v ∧ OwnP 43 w' w.heap.size v (kindL k (setL l)) ∧ Below w.heap.size w w' := by
  have hw : IntKind.u8.wrap (k : Int) = (k : Int) := by rw [IntKind.wrap_u8']; omega
  have hd : decide ((255 : Int) < (k : Int)) = false := by simp; omega
  go_enter Try.func23, Try.ntmps23
  go_wp2_with fail
  refine (set_any B A n c l _ hr hB hln hn hl).mono ?_
  rintro e w1 ⟨rfl, hs1, hb1⟩
  have hz1 := hb1.size
  go_wp2_with fail
  refine (ofKind_any _ n k _ _ hs1 hn (ok_setL hl)).mono ?_
  rintro e w2 ⟨rfl, hs2, hb2⟩
  have hb12 := hb1.trans (hb2.mono hz1)
  have hz2 := hb12.size
  go_wp2_with fail
  refine (told_any _ n _ _ hs2 hn (ok_kindL (ok_setL hl) k).1).mono ?_
  rintro e w3 ⟨v, rfl, h3, hb3⟩
  have HO := Lib.hid (h3.base hz2)
  have HB := Lib.hid (hb12.trans (hb3.mono hz2))
  clear h3 hb3
  go_wp2
  go_ret
  exact ⟨_, rfl, HO.out, HB.out⟩

end Go.Proofs.Ytmonokfibldghaa
